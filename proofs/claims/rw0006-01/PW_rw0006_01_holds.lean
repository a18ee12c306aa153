import PyProof.Rows.All
import Wide.All
import OpenK.AllK
import Wide.FinOn
import PySem.Challenge.RW_rw0006_01
set_option Elab.async false
set_option rowWalk.seconds 0
section
open PySem PySem.W PyProof.Rows
namespace Mine
set_option maxRecDepth 100000 in
set_option maxHeartbeats 8000000 in
open_top hd for PySem.Challenge.rw_rw0006_01
end Mine
end

section
open PySem PySem.W PyProof.Rows PySem.Calls
namespace Mine

abbrev arnd (dp un : Nat) (gd : Option (List Code)) (frs : List Env) : Around := { handled := none, depth := dp, frames := some frs, guards := gd, units := un }

def Ext (h h' : Heap) : Prop := ∀ b o, h.get? b = some o → h'.get? b = some o
theorem Ext.refl (h : Heap) : Ext h h := fun _ _ e => e
theorem Ext.trans {a b c : Heap} (x : Ext a b) (y : Ext b c) : Ext a c := fun d o e => y d o (x d o e)

/-- a list of ints at l -/
def IntL (h : Heap) (l : Addr) (ns : List Int) : Prop := ∃ vs, h.IsList l vs.toArray ∧ IntsAre vs ns
theorem IntL.ext {h h' : Heap} {l : Addr} {ns : List Int} (x : IntL h l ns) (e : Ext h h') : IntL h' l ns :=
  let ⟨vs, ⟨o, ho, r⟩, hi⟩ := x; ⟨vs, ⟨o, e _ _ ho, r⟩, hi⟩

section
variable {prog : Program} {w : World} {K : Frag} {p : Program} {loose : List Str} {mean : ExcName → Option Value} {mg mb : Str → Option Value} {s : Shared} {E : Value → Shared → Prop} {Q : Value → Shared → Prop}
  {name qual : Str} {params : Arguments} {body : List Stmt} {scope : Scope} {dV kV doc pm cdv ct oc : Value} {an od : Option Addr} {osl : Array (Option Value)} {f : Addr} {args : Args} {binds : List (Str × Value)} {dp un : Nat} {gd : Option (List Code)} {frs : List Env}

/-- entering a def of no cells: all that stands is kept -/
theorem enterR {base : Heap} (B : Below (arnd dp un gd frs) base frs s.heap) (X : K.In s.heap) (T : Top p loose mean mg mb s.heap)
    (ho : K.lookup f = some ⟨oc, od, .func (fnOf name qual params body scope dV kV doc pm an cdv ct), osl⟩) (hcd : codeIn K cdv qual = true) (hroom : dp < recursionLimit)
    (hbind : BindsTo s (fnOf name qual params body scope dV kV doc pm an cdv ct) args binds) (hloc : ∀ y ∈ binds, scope.names.lookup y.1 = some .local)
    (hco : scope.isCoroutine = false) (hgen : scope.isGenerator = false) (hk : scope.kind = .function)
    (hcell : ∀ x ∈ scope.names, x.2 ≠ .cell)
    (h : ∀ h₁, Fr s.heap s.heap.objs.size h₁ (fun y => binds.reverse.lookup y) →
      wpAny (model prog w) (arnd (dp + 1) (un + 3) gd (envOf qual scope s.heap.objs.size f cdv :: frs)) (execs body (envOf qual scope s.heap.objs.size f cdv))
        (fun fl s' => Q (match fl with | .ret v => v | _ => .none) s')
        (fun e s' => wpAny (model prog w) (arnd (dp + 1) (un + 3) gd (envOf qual scope s.heap.objs.size f cdv :: frs)) (leaving (envOf qual scope s.heap.objs.size f cdv) e) (fun _ s'' => E e s'') (fun e' s'' => E e' s'') s')
        { s with heap := h₁, toks := s.toks + binds.length }) :
    wpAny (model prog w) (arnd dp un gd frs) (call (.ref f) args.pos args.kw) Q E s := by
  refine wpAny_call (codeAny_call_def (fd := fnOf name qual params body scope dV kV doc pm an cdv ct) (body := body) (binds := binds) hroom (X _ _ ho) rfl T.nolimit (codeRec_of X hcd) rfl hbind hcell hloc (fun h₁ hns hk₁ => ?_) hco hgen hk)
  exact h h₁ ⟨hns, hk₁, Nat.le_refl _⟩
end

/-- what a def of the text does, upon all callers -/
def Ctr (prog : Program) (w : World) (K : Frag) (p : Program) (f : Addr) (args : List Value) (d u : Nat) (Pre : Heap → Prop) (Post : Heap → Heap → Value → Prop) : Prop :=
  ∀ (loose : List Str) (mean : ExcName → Option Value) (mg mb : Str → Option Value) (s : Shared) (E Q : Value → Shared → Prop) (dp un : Nat) (gd : Option (List Code)) (frs : List Env) (base : Heap),
    Below (arnd dp un gd frs) base frs s.heap → K.In s.heap → Top p loose mean mg mb s.heap → dp + d < recursionLimit → un + u < cLine → Pre s.heap →
    (∀ r h' tk', Ext s.heap h' → Post s.heap h' r → Q r { s with heap := h', toks := tk' }) →
    wpAny (model prog w) (arnd dp un gd frs) (call (.ref f) args) Q E s

theorem below_in {base h₀ h : Heap} {L : Addr} {m : Str → Option Value} {env : Env} {dp un : Nat} {gd : Option (List Code)} {frs : List Env} (B : Below (arnd dp un gd frs) base frs h₀) (F : Fr h₀ L h m)
    (hf : env.frame = some L) (hk : env.scope.kind = .function) : Below (arnd (dp + 1) (un + 3) gd (env :: frs)) base (env :: frs) h := pushX B F hf hk

/-- a call of such a def in a def's frame -/
theorem Ctr.use {prog : Program} {w : World} {K : Frag} {p : Program} {f : Addr} {args : List Value} {d u : Nat} {Pre : Heap → Prop} {Post : Heap → Heap → Value → Prop} (C : Ctr prog w K p f args d u Pre Post)
    {loose : List Str} {mean : ExcName → Option Value} {mg mb : Str → Option Value} {s : Shared} {E Q : Value → Shared → Prop} {dp un : Nat} {gd : Option (List Code)} {frs : List Env} {base h₀ : Heap} {L : Addr} {m : Str → Option Value} {env : Env} {news : List (Addr × Obj)}
    (B : Below (arnd dp un gd frs) base frs h₀) (F : Fr h₀ L s.heap m) (N : News h₀ L s.heap news) (X : K.In h₀) (T : Top p loose mean mg mb h₀)
    (hf : env.frame = some L) (hk : env.scope.kind = .function) (hd : dp + 1 + d < recursionLimit) (hu : un + 3 + u < cLine) (pre : Pre s.heap)
    (ret : ∀ r h' tk', Fr h₀ L h' m → News h₀ L h' news → Ext s.heap h' → Post s.heap h' r → Q r { s with heap := h', toks := tk' }) :
    wpAny (model prog w) (arnd (dp + 1) (un + 3) gd (env :: frs)) (call (.ref f) args) Q E s :=
  C loose mean mg mb s E Q (dp + 1) (un + 3) gd (env :: frs) base (below_in B F hf hk) (X.keeps F.keep) (T.keeps F.keep) hd hu pre
    fun r h' tk' k po => ret r h' tk' (F.keeps k) (N.grown k) k po

def IntR (v : Int) (_ _ : Heap) (r : Value) : Prop := ∃ t, r = .int v t
end Mine
end

section
open PySem PySem.W PyProof.Rows PySem.Calls
namespace Mine

set_option maxRecDepth 100000 in
set_option maxHeartbeats 4000000 in
theorem c_or {w : World} {a b : Int} {ta tb : Tok} : Ctr PySem.Challenge.rw_rw0006_01.row.prog w (hd.heap_39 w.params) hd.view_39 49 [.int a ta, .int b tb] 5 40 (fun _ => True) (IntR (Builtin.bitOr a b)) := by
  k_with_none
  w_top off
  k_fill
  intro loose mean mg mb s E Q dp un gd frs base B X T hd hu pre ret
  obtain ⟨g, gens, drawn, toks, os⟩ := s
  dsimp only at B X T pre ret
  k_dflt (refine' enterR (args := ⟨_, []⟩) (binds := [(Str.ofString "a", .int a ta), (Str.ofString "b", .int b tb)]) ?k1 ?k2 ?k3 ?k6 ?k7 ?k8 ?k9 ?kB ?c2 ?c3 ?c4 ?c5 ?_; (case k1 => k_asm); (case k2 => k_asm); (case k3 => k_asm); (case k6 => k_is); (case k7 => k_is); (case k8 => omega); (case k9 => exact BindsTo.of_eq rfl); (case c5 => decide); (case kB => exact locs rfl); (case c2 => exact rfl); (case c3 => exact rfl); (case c4 => exact rfl); k_whole)
  intro h₁ F
  have N : News g g.objs.size h₁ [] := News.nil
  have KX := X
  dsimp only at *
  k_unmd
  k_fold
  k_steps
  all_goals exact ret _ _ _ (fun b o e => Fr.keep (by assumption) b o e) ⟨_, rfl⟩

set_option maxRecDepth 100000 in
set_option maxHeartbeats 4000000 in
theorem c_and {w : World} {a b : Int} {ta tb : Tok} : Ctr PySem.Challenge.rw_rw0006_01.row.prog w (hd.heap_39 w.params) hd.view_39 28 [.int a ta, .int b tb] 5 40 (fun _ => True) (IntR (Builtin.bitAnd a b)) := by
  k_with_none
  w_top off
  k_fill
  intro loose mean mg mb s E Q dp un gd frs base B X T hd hu pre ret
  obtain ⟨g, gens, drawn, toks, os⟩ := s
  dsimp only at B X T pre ret
  k_dflt (refine' enterR (args := ⟨_, []⟩) (binds := [(Str.ofString "a", .int a ta), (Str.ofString "b", .int b tb)]) ?k1 ?k2 ?k3 ?k6 ?k7 ?k8 ?k9 ?kB ?c2 ?c3 ?c4 ?c5 ?_; (case k1 => k_asm); (case k2 => k_asm); (case k3 => k_asm); (case k6 => k_is); (case k7 => k_is); (case k8 => omega); (case k9 => exact BindsTo.of_eq rfl); (case c5 => decide); (case kB => exact locs rfl); (case c2 => exact rfl); (case c3 => exact rfl); (case c4 => exact rfl); k_whole)
  intro h₁ F
  have N : News g g.objs.size h₁ [] := News.nil
  have KX := X
  dsimp only at *
  k_unmd
  k_fold
  k_steps
  all_goals exact ret _ _ _ (fun b o e => Fr.keep (by assumption) b o e) ⟨_, rfl⟩

set_option maxRecDepth 100000 in
set_option maxHeartbeats 4000000 in
theorem c_inv {w : World} {a : Int} {ta : Tok} : Ctr PySem.Challenge.rw_rw0006_01.row.prog w (hd.heap_39 w.params) hd.view_39 35 [.int a ta] 5 40 (fun _ => True) (IntR (Builtin.bitNot a)) := by
  k_with_none
  w_top off
  k_fill
  intro loose mean mg mb s E Q dp un gd frs base B X T hd hu pre ret
  obtain ⟨g, gens, drawn, toks, os⟩ := s
  dsimp only at B X T pre ret
  k_dflt (refine' enterR (args := ⟨_, []⟩) (binds := [(Str.ofString "a", .int a ta)]) ?k1 ?k2 ?k3 ?k6 ?k7 ?k8 ?k9 ?kB ?c2 ?c3 ?c4 ?c5 ?_; (case k1 => k_asm); (case k2 => k_asm); (case k3 => k_asm); (case k6 => k_is); (case k7 => k_is); (case k8 => omega); (case k9 => exact BindsTo.of_eq rfl); (case c5 => decide); (case kB => exact locs rfl); (case c2 => exact rfl); (case c3 => exact rfl); (case c4 => exact rfl); k_whole)
  intro h₁ F
  have N : News g g.objs.size h₁ [] := News.nil
  have KX := X
  dsimp only at *
  k_unmd
  k_fold
  k_steps
  all_goals exact ret _ _ _ (fun b o e => Fr.keep (by assumption) b o e) ⟨_, rfl⟩

set_option maxRecDepth 100000 in
set_option maxHeartbeats 4000000 in
theorem c_lshift {w : World} {a b : Int} {ta tb : Tok} : Ctr PySem.Challenge.rw_rw0006_01.row.prog w (hd.heap_39 w.params) hd.view_39 42 [.int a ta, .int b tb] 5 40 (fun _ => a.natAbs < 2^64 ∧ 0 ≤ b ∧ b ≤ 1000) (IntR (a * 2 ^ b.toNat)) := by
  k_with_none
  w_top off
  k_fill
  intro loose mean mg mb s E Q dp un gd frs base B X T hd hu pre ret
  obtain ⟨g, gens, drawn, toks, os⟩ := s
  dsimp only at B X T pre ret
  k_dflt (refine' enterR (args := ⟨_, []⟩) (binds := [(Str.ofString "a", .int a ta), (Str.ofString "b", .int b tb)]) ?k1 ?k2 ?k3 ?k6 ?k7 ?k8 ?k9 ?kB ?c2 ?c3 ?c4 ?c5 ?_; (case k1 => k_asm); (case k2 => k_asm); (case k3 => k_asm); (case k6 => k_is); (case k7 => k_is); (case k8 => omega); (case k9 => exact BindsTo.of_eq rfl); (case c5 => decide); (case kB => exact locs rfl); (case c2 => exact rfl); (case c3 => exact rfl); (case c4 => exact rfl); k_whole)
  intro h₁ F
  have N : News g g.objs.size h₁ [] := News.nil
  have KX := X
  dsimp only at *
  obtain ⟨p1, p2, p3⟩ := pre
  k_unmd
  k_fold
  k_steps
  all_goals exact ret _ _ _ (fun b o e => Fr.keep (by assumption) b o e) ⟨_, rfl⟩
end Mine
end

section
open PySem PySem.W PyProof.Rows PySem.Calls
namespace Mine
local macro_rules | `(tactic| walk_at "call ref") => `(tactic| (k_here; k_dflt (refine' Ctr.use c_or ?B ?F ?N ?X ?T ?hf ?hk ?hd ?hu ?pre ?_; (case B => k_asm); (case F => k_asm); (case N => k_asm); (case X => k_asm); (case T => k_asm); (case hf => exact rfl); (case hk => exact rfl); (case hd => omega); (case hu => omega); (case pre => trivial); k_whole); (intro r' h' tk' F' N' e' p'); (obtain ⟨t', q'⟩ := p'; subst q'); (try dsimp only)))
local macro_rules | `(tactic| walk_at "call ref") => `(tactic| (k_here; k_dflt (refine' Ctr.use c_and ?B ?F ?N ?X ?T ?hf ?hk ?hd ?hu ?pre ?_; (case B => k_asm); (case F => k_asm); (case N => k_asm); (case X => k_asm); (case T => k_asm); (case hf => exact rfl); (case hk => exact rfl); (case hd => omega); (case hu => omega); (case pre => trivial); k_whole); (intro r' h' tk' F' N' e' p'); (obtain ⟨t', q'⟩ := p'; subst q'); (try dsimp only)))
local macro_rules | `(tactic| walk_at "call ref") => `(tactic| (k_here; k_dflt (refine' Ctr.use c_inv ?B ?F ?N ?X ?T ?hf ?hk ?hd ?hu ?pre ?_; (case B => k_asm); (case F => k_asm); (case N => k_asm); (case X => k_asm); (case T => k_asm); (case hf => exact rfl); (case hk => exact rfl); (case hd => omega); (case hu => omega); (case pre => trivial); k_whole); (intro r' h' tk' F' N' e' p'); (obtain ⟨t', q'⟩ := p'; subst q'); (try dsimp only)))
local macro_rules | `(tactic| walk_at "call ref") => `(tactic| (k_here; k_dflt (refine' Ctr.use c_lshift ?B ?F ?N ?X ?T ?hf ?hk ?hd ?hu ?pre ?_; (case B => k_asm); (case F => k_asm); (case N => k_asm); (case X => k_asm); (case T => k_asm); (case hf => exact rfl); (case hk => exact rfl); (case hd => omega); (case hu => omega); (case pre => refine ⟨?_, ?_, ?_⟩ <;> first | assumption | decide | omega); k_whole); (intro r' h' tk' F' N' e' p'); (obtain ⟨t', q'⟩ := p'; subst q'); (try dsimp only)))

set_option maxRecDepth 100000 in
set_option maxHeartbeats 4000000 in
theorem c_ones {w : World} {word mask : Int} {tword tmask : Tok} : Ctr PySem.Challenge.rw_rw0006_01.row.prog w (hd.heap_39 w.params) hd.view_39 80 [.int word tword, .int mask tmask] 9 80 (fun _ => word.natAbs < 2^64) (IntR (Builtin.bitAnd (Builtin.bitOr (word * 2 ^ (1 : Int).toNat) 1) mask)) := by
  k_with_none
  w_top off
  k_fill
  intro loose mean mg mb s E Q dp un gd frs base B X T hd hu pre ret
  obtain ⟨g, gens, drawn, toks, os⟩ := s
  dsimp only at B X T pre ret
  k_dflt (refine' enterR (args := ⟨_, []⟩) (binds := [(Str.ofString "word", .int word tword), (Str.ofString "mask", .int mask tmask)]) ?k1 ?k2 ?k3 ?k6 ?k7 ?k8 ?k9 ?kB ?c2 ?c3 ?c4 ?c5 ?_; (case k1 => k_asm); (case k2 => k_asm); (case k3 => k_asm); (case k6 => k_is); (case k7 => k_is); (case k8 => omega); (case k9 => exact BindsTo.of_eq rfl); (case c5 => decide); (case kB => exact locs rfl); (case c2 => exact rfl); (case c3 => exact rfl); (case c4 => exact rfl); k_whole)
  intro h₁ F
  have N : News g g.objs.size h₁ [] := News.nil
  have KX := X
  dsimp only at *
  k_unmd
  k_fold
  k_steps
  all_goals exact ret _ _ _ (fun b o e => Fr.keep (by assumption) b o e) ⟨_, rfl⟩

set_option maxRecDepth 100000 in
set_option maxHeartbeats 4000000 in
theorem c_noughts {w : World} {word mask : Int} {tword tmask : Tok} : Ctr PySem.Challenge.rw_rw0006_01.row.prog w (hd.heap_39 w.params) hd.view_39 87 [.int word tword, .int mask tmask] 9 80 (fun _ => word.natAbs < 2^64) (IntR (Builtin.bitOr (word * 2 ^ (1 : Int).toNat) (Builtin.bitNot mask))) := by
  k_with_none
  w_top off
  k_fill
  intro loose mean mg mb s E Q dp un gd frs base B X T hd hu pre ret
  obtain ⟨g, gens, drawn, toks, os⟩ := s
  dsimp only at B X T pre ret
  k_dflt (refine' enterR (args := ⟨_, []⟩) (binds := [(Str.ofString "word", .int word tword), (Str.ofString "mask", .int mask tmask)]) ?k1 ?k2 ?k3 ?k6 ?k7 ?k8 ?k9 ?kB ?c2 ?c3 ?c4 ?c5 ?_; (case k1 => k_asm); (case k2 => k_asm); (case k3 => k_asm); (case k6 => k_is); (case k7 => k_is); (case k8 => omega); (case k9 => exact BindsTo.of_eq rfl); (case c5 => decide); (case kB => exact locs rfl); (case c2 => exact rfl); (case c3 => exact rfl); (case c4 => exact rfl); k_whole)
  intro h₁ F
  have N : News g g.objs.size h₁ [] := News.nil
  have KX := X
  dsimp only at *
  k_unmd
  k_fold
  k_steps
  all_goals exact ret _ _ _ (fun b o e => Fr.keep (by assumption) b o e) ⟨_, rfl⟩
end Mine
end

section
open PySem PySem.W PyProof.Rows PySem.Calls PySem.Spec
namespace Mine
section
variable {prog : Program} {w : World} {A : Around} {E : Value → Shared → Prop} {s : Shared} {env : Env} {h₀ : Heap} {x : Str} {body : List Stmt} {Q : Flow → Shared → Prop}

/-- a loop upon any source, by an invariant over the turn's number, the names and the ledger -/
theorem loopW {I : Addr} {fp wr : List Addr} {n : Nat} {P : Nat → Value → Prop} {St : Nat → Heap → Prop} {m₀ : Str → Option Value} {news : List (Addr × Obj)}
    (J : Nat → (Str → Option Value) → List (Addr × Obj) → Prop) (W : Walks prog w A I fp wr n P St) (hLf : env.locals ∉ fp) (hwr : ∀ b ∈ wr, h₀.get? b = none) (hnw : ∀ p ∈ news, p.1 ∉ wr) (hst : St 0 s.heap)
    (F : Fr h₀ env.locals s.heap m₀) (N : News h₀ env.locals s.heap news) (hj : J 0 m₀ news)
    (turn : ∀ i v m₁ news₁ h tk own, i < n → P i v → news₁.map (·.1) = news.map (·.1) → (∀ p ∈ own, p.1 ∈ fp) → J i m₁ news₁ → Fr h₀ env.locals h (fun y => if y = x then some v else m₁ y) → News h₀ env.locals h (news₁ ++ own) →
      wpAny (model prog w) A (execs body env) (InvPostN h₀ env.locals (J (i + 1)) own (news.map (·.1)) { s with heap := h, toks := tk } Q) E { s with heap := h, toks := tk })
    (done : ∀ m₁ news₁ h tk, news₁.map (·.1) = news.map (·.1) → J n m₁ news₁ → Fr h₀ env.locals h m₁ → News h₀ env.locals h news₁ → Q .next { s with heap := h, toks := tk }) :
    LoopAtV prog w A h₀ env x body Q E (.ref I) s := by
  let J' : Nat → (Str → Option Value) → List (Addr × Obj) → Prop := fun i m₁ news₁ => news₁.map (·.1) = news.map (·.1) ∧ J i m₁ news₁
  refine ⟨I, fp, wr, n, P, St, m₀, news, J', rfl, W, hLf, hwr, hnw, hst, F, N, ⟨rfl, hj⟩, ?_, ?_⟩
  · rintro i v m₁ news₁ s₁ own ⟨hh', tk', rfl⟩ hin hP ⟨hadr, hJ⟩ hoff hown _ _ _ F₁ N₁
    have N₂ : News h₀ env.locals hh' (news₁ ++ own) := fun p hp => N₁ p ((List.mem_append.mp hp).elim (fun h => List.mem_append.mpr (.inr h)) fun h => List.mem_append.mpr (.inl h))
    refine wpAny_mono (turn i v m₁ news₁ hh' tk' own hin hP hadr hown hJ F₁ N₂) (fun f s₂ p => ?_) fun _ _ e => e
    have fin : InvEndN h₀ env.locals (J (i + 1)) own (news.map (·.1)) { s with heap := hh', toks := tk' } s₂ → LoopStepU h₀ env.locals wr own (J' (i + 1)) { s with heap := hh', toks := tk' } .next s₂ := by
      rintro ⟨h', tk, m', news', nx, e, F', N', hn, ho, ha, hm⟩
      refine ⟨rfl, h', tk, m', nx, e, F', fun p hp => N' p ((List.mem_append.mp hp).elim (ho p) (hn p)), fun p hp hq => ?_, ha, hm⟩
      have h1 : p.1 ∈ nx.map (·.1) := List.mem_map.mpr ⟨p, hp, rfl⟩
      rw [ha, ← hadr] at h1
      obtain ⟨q, hq1, hq2⟩ := List.mem_map.mp h1
      exact hoff q hq1 (by rw [hq2]; exact hq)
    cases f with
    | ret v => exact .ret p
    | brk => exact .brk p
    | next => exact .next (fin p)
    | cont => exact .cont (fin p)
  · rintro h' tk m' news' F' N' _ ⟨ha, hJ⟩
    exact done m' news' h' tk ha hJ F' N'

/-- a loop upon a list that stands, unturned by the body -/
theorem iterLst {l : Addr} {items : Array Value} {m₀ : Str → Option Value} {news : List (Addr × Obj)} (J : Nat → (Str → Option Value) → List (Addr × Obj) → Prop)
    (hh : A.handled = none) (hl : s.heap.IsList l items) (hlL : l ≠ env.locals) (F : Fr h₀ env.locals s.heap m₀) (N : News h₀ env.locals s.heap news) (hj : J 0 m₀ news)
    (turn : ∀ i v m₁ news₁ h tk own, items[i]? = some v → news₁.map (·.1) = news.map (·.1) → (∀ b ∈ news.map (·.1), b ≠ l → ∀ p ∈ own, p.1 ≠ b) → J i m₁ news₁ → Fr h₀ env.locals h (fun y => if y = x then some v else m₁ y) → News h₀ env.locals h (news₁ ++ own) →
      wpAny (model prog w) A (execs body env) (InvPostN h₀ env.locals (J (i + 1)) own (news.map (·.1)) { s with heap := h, toks := tk } Q) E { s with heap := h, toks := tk })
    (done : ∀ m₁ news₁ h tk, news₁.map (·.1) = news.map (·.1) → J items.size m₁ news₁ → Fr h₀ env.locals h m₁ → News h₀ env.locals h news₁ → Q .next { s with heap := h, toks := tk }) :
    wpAny (model prog w) A (pyIter (.ref l)) (fun it s₂ => LoopAtV prog w A h₀ env x body Q E it s₂) E s := by
  obtain ⟨ol, hol, _⟩ := id hl
  have hlt : l < s.heap.objs.size := Heap.lt_size hol
  have hne : l ≠ s.heap.objs.size := Nat.ne_of_lt hlt
  refine wpAny_pyIter_list hl ?_
  have W := Walks.list (prog := prog) (w := w) hh s.heap.objs.size l hne items
  refine loopW (s := { s with heap := s.heap.push { cls := .type "list_iterator", data := .fields #[.ref l, .int 0 0] } }) J W ?_ ?_ ?_ ⟨⟨_, Heap.get?_push_size _ rfl, rfl, rfl⟩, hl.at fun o e => Heap.get?_push_of_some _ e⟩ (F.push _) (fun p hp => ⟨Heap.get?_push_of_some _ (N p hp).1, (N p hp).2⟩) hj ?_ ?_
  · intro hm
    rcases List.mem_cons.mp hm with e | hm
    · exact absurd F.ns.lt (e ▸ Nat.lt_irrefl _)
    · exact hlL (List.mem_singleton.mp hm).symm
  · intro b hb
    rw [List.mem_singleton.mp hb]
    exact next_is_new F
  · intro p hp hI
    exact absurd (Heap.lt_size (N p hp).1) ((List.mem_singleton.mp hI) ▸ Nat.lt_irrefl _)
  · intro i v m₁ news₁ h tk own hin hP hadr hown hJ F₁ N₁
    refine turn i v m₁ news₁ h tk own hP hadr (fun b hb hbl p hp e => ?_) hJ F₁ N₁
    rcases List.mem_cons.mp (hown p hp) with h1 | h1
    · obtain ⟨q, hq, rfl⟩ := List.mem_map.mp hb
      exact absurd (Heap.lt_size (N q hq).1) (by rw [← e, h1]; exact Nat.lt_irrefl _)
    · exact hbl (by rw [← e, List.mem_singleton.mp h1])
  · exact done

/-- a loop upon a range -/
theorem iterRng {r : Addr} {a b c : Int} {t u v : Tok} {n : Nat} {m₀ : Str → Option Value} {news : List (Addr × Obj)} (J : Nat → (Str → Option Value) → List (Addr × Obj) → Prop)
    (hh : A.handled = none) (hr : IsRange s.heap r a b c t u v) (hsmall : Builtin.Range.small a b c = true) (hn : Builtin.Range.rangeSize a b c = (n : Int)) (F : Fr h₀ env.locals s.heap m₀) (N : News h₀ env.locals s.heap news) (hj : J 0 m₀ news)
    (turn : ∀ (i : Nat) k tk' m₁ news₁ h tk own, i < n → k = a + i * c → news₁.map (·.1) = news.map (·.1) → OwnOff own (news.map (·.1)) → J i m₁ news₁ → Fr h₀ env.locals h (fun y => if y = x then some (.int k tk') else m₁ y) → News h₀ env.locals h (news₁ ++ own) →
      wpAny (model prog w) A (execs body env) (InvPostN h₀ env.locals (J (i + 1)) own (news.map (·.1)) { s with heap := h, toks := tk } Q) E { s with heap := h, toks := tk })
    (done : ∀ m₁ news₁ h tk, news₁.map (·.1) = news.map (·.1) → J n m₁ news₁ → Fr h₀ env.locals h m₁ → News h₀ env.locals h news₁ → Q .next { s with heap := h, toks := tk }) :
    wpAny (model prog w) A (pyIter (.ref r)) (fun it s₂ => LoopAtV prog w A h₀ env x body Q E it s₂) E s := by
  refine wpAny_pyIter_range hr hsmall ?_
  have W := Walks.range (prog := prog) (w := w) hh s.heap.objs.size a c n
  refine loopW (s := { s with heap := s.heap.push { cls := .type "range_iterator", data := .fields #[rawInt a, rawInt (Builtin.Range.rangeSize a b c), rawInt c] } }) J W ?_ ?_ ?_
    (by show IsRangeIter _ _ _ _ _; rw [hn]; simpa using Heap.get?_push_size _ rfl) (F.push _) (fun p hp => ⟨Heap.get?_push_of_some _ (N p hp).1, (N p hp).2⟩) hj ?_ ?_
  · intro hm
    exact absurd F.ns.lt ((List.mem_singleton.mp hm) ▸ Nat.lt_irrefl _)
  · intro b hb
    rw [List.mem_singleton.mp hb]
    exact next_is_new F
  · intro p hp hI
    exact absurd (Heap.lt_size (N p hp).1) ((List.mem_singleton.mp hI) ▸ Nat.lt_irrefl _)
  · rintro i v m₁ news₁ h tk own hin ⟨t', rfl⟩ hadr hown hJ F₁ N₁
    refine turn i _ t' m₁ news₁ h tk own hin rfl hadr (fun p hp b hb e => ?_) hJ F₁ N₁
    obtain ⟨q, hq, rfl⟩ := List.mem_map.mp hb
    exact absurd (Heap.lt_size (N q hq).1) (by rw [← e, List.mem_singleton.mp (hown p hp)]; exact Nat.lt_irrefl _)
  · exact done
end
end Mine
end

section
open PySem
namespace Mine
theorem not_not_i (x : Int) : Builtin.bitNot (Builtin.bitNot x) = x := by unfold Builtin.bitNot; omega
theorem not_toNat (b : Nat) : (Builtin.bitNot (Builtin.bitNot (b : Int))).toNat = b := by rw [not_not_i]; rfl
theorem not_neg (b : Nat) : ¬ (0 : Int) ≤ Builtin.bitNot (b : Int) := by unfold Builtin.bitNot; omega
theorem and_nn (a b : Nat) : Builtin.bitAnd (a : Int) (b : Int) = ((a &&& b : Nat) : Int) := by
  unfold Builtin.bitAnd
  rw [decide_eq_true (Int.natCast_nonneg a), decide_eq_true (Int.natCast_nonneg b)]
  rfl
theorem and_np (a b : Nat) : Builtin.bitAnd (a : Int) (Builtin.bitNot (b : Int)) = (a : Int) - ((a &&& b : Nat) : Int) := by
  unfold Builtin.bitAnd
  rw [decide_eq_true (Int.natCast_nonneg a), decide_eq_false (not_neg b)]
  show (a : Int) - (((a : Int).toNat &&& (Builtin.bitNot (Builtin.bitNot (b : Int))).toNat : Nat) : Int) = _
  rw [not_toNat]; rfl
theorem and_pn (a b : Nat) : Builtin.bitAnd (Builtin.bitNot (a : Int)) (b : Int) = (b : Int) - ((b &&& a : Nat) : Int) := by
  unfold Builtin.bitAnd
  rw [decide_eq_true (Int.natCast_nonneg b), decide_eq_false (not_neg a)]
  show (b : Int) - (((b : Int).toNat &&& (Builtin.bitNot (Builtin.bitNot (a : Int))).toNat : Nat) : Int) = _
  rw [not_toNat]; rfl
theorem and_pp (a b : Nat) : Builtin.bitAnd (Builtin.bitNot (a : Int)) (Builtin.bitNot (b : Int)) = Builtin.bitNot ((a ||| b : Nat) : Int) := by
  unfold Builtin.bitAnd
  rw [decide_eq_false (not_neg b), decide_eq_false (not_neg a)]
  show Builtin.bitNot (((Builtin.bitNot (Builtin.bitNot (a : Int))).toNat ||| (Builtin.bitNot (Builtin.bitNot (b : Int))).toNat : Nat) : Int) = _
  rw [not_toNat, not_toNat]
theorem or_nn (a b : Nat) : Builtin.bitOr (a : Int) (b : Int) = ((a ||| b : Nat) : Int) := by
  unfold Builtin.bitOr
  rw [and_pp, not_not_i]
theorem or_np (a b : Nat) : Builtin.bitOr (a : Int) (Builtin.bitNot (b : Int)) = Builtin.bitNot ((b : Int) - ((b &&& a : Nat) : Int)) := by
  unfold Builtin.bitOr
  rw [not_not_i, and_pn]
theorem or_pp (a b : Nat) : Builtin.bitOr (Builtin.bitNot (a : Int)) (Builtin.bitNot (b : Int)) = Builtin.bitNot ((a &&& b : Nat) : Int) := by
  unfold Builtin.bitOr
  rw [not_not_i, not_not_i, and_nn]
theorem or_even (n : Nat) : 2 * n ||| 1 = 2 * n + 1 := by
  have := Nat.two_pow_add_eq_or_of_lt (i := 1) (b := 1) (by decide) n
  rw [Nat.pow_one] at this
  exact this.symm
/-- the number whose ones are told -/
def bitsN (p : Nat → Bool) : Nat → Nat
  | 0 => 0
  | n + 1 => bitsN p n ||| if p n then 2 ^ n else 0
theorem bitsN_lt (p : Nat → Bool) : ∀ n, bitsN p n < 2 ^ n
  | 0 => by simp [bitsN]
  | n + 1 => by
    unfold bitsN
    have h := bitsN_lt p n
    have h2 : 2 ^ n < 2 ^ (n + 1) := Nat.pow_lt_pow_right (by decide) (Nat.lt_succ_self n)
    refine Nat.or_lt_two_pow (Nat.lt_trans h h2) ?_
    split
    · exact h2
    · exact Nat.pow_pos (by decide)
theorem bitsN_bit (p : Nat → Bool) (k : Nat) : ∀ n, (bitsN p n).testBit k = (decide (k < n) && p k)
  | 0 => by simp [bitsN]
  | n + 1 => by
    unfold bitsN
    rw [Nat.testBit_or, bitsN_bit p k n]
    by_cases hk : k = n
    · subst hk
      split
      · rename_i h; simp [h, Nat.testBit_two_pow_self]
      · rename_i h; simp [h]
    · have e : (if p n then 2 ^ n else 0 : Nat).testBit k = false := by
        split
        · exact Nat.testBit_two_pow_of_ne (Ne.symm hk)
        · simp
      rw [e, Bool.or_false]
      have : decide (k < n) = decide (k < n + 1) := by
        apply decide_eq_decide.mpr; omega
      rw [this]
end Mine
end

section
open PySem PySem.W PyProof.Rows PySem.Calls
namespace Mine
local macro_rules | `(tactic| walk_at "pad of mine") => `(tactic| fail)
/-- ones at the places of a sign, the last sign met the lowest -/
def maskV (sign : Int) (l : List Int) : Int := l.foldl (fun a x => 2 * a + if x = sign then 1 else 0) 0
theorem maskV_snoc (sign : Int) (l : List Int) (x : Int) : maskV sign (l ++ [x]) = 2 * maskV sign l + if x = sign then 1 else 0 := by
  simp [maskV, List.foldl_append]
theorem maskV_cons_aux (sign : Int) (l : List Int) : ∀ a : Int, 0 ≤ a → l.foldl (fun a x => 2 * a + if x = sign then 1 else 0) a < (a + 1) * 2 ^ l.length ∧ 0 ≤ l.foldl (fun a x => 2 * a + if x = sign then 1 else 0) a := by
  induction l with
  | nil => intro a h; simp; omega
  | cons x l ih =>
    intro a h
    simp only [List.foldl_cons, List.length_cons, Int.pow_succ]
    have hp : (0 : Int) < 2 ^ l.length := Int.pow_pos (by decide)
    have e : (0 : Int) ≤ 2 * a + if x = sign then 1 else 0 := by split <;> omega
    have h1 := ih _ e
    refine ⟨Int.lt_of_lt_of_le h1.1 ?_, h1.2⟩
    have e2 : (2 * a + if x = sign then 1 else 0) + 1 ≤ (a + 1) * 2 := by split <;> omega
    calc _ ≤ ((a + 1) * 2) * 2 ^ l.length := Int.mul_le_mul_of_nonneg_right e2 (Int.le_of_lt hp)
      _ = (a + 1) * (2 ^ l.length * 2) := by rw [Int.mul_assoc, Int.mul_comm 2]
theorem maskV_nonneg (sign : Int) (l : List Int) : 0 ≤ maskV sign l := (maskV_cons_aux sign l 0 (Int.le_refl 0)).2
theorem maskV_small (sign : Int) {l : List Int} (h : l.length ≤ 8) : maskV sign l < 256 := by
  have h1 := (maskV_cons_aux sign l 0 (Int.le_refl 0)).1
  have h2 : (2 : Int) ^ l.length ≤ 2 ^ 8 := by
    have : (2 : Nat) ^ l.length ≤ 2 ^ 8 := Nat.pow_le_pow_right (by omega) h
    exact_mod_cast this
  simp only [Int.zero_add, Int.one_mul] at h1
  exact Int.lt_of_lt_of_le h1 h2
theorem bitOr_even_one {k : Int} (h : 0 ≤ k) : Builtin.bitOr (2 * k) 1 = 2 * k + 1 := by
  obtain ⟨n, rfl⟩ := Int.eq_ofNat_of_zero_le h
  have := or_nn (2 * n) 1
  rw [or_even] at this
  push_cast at this
  exact this
/-- the loop's word -/
def MaskW (sign : Int) (pre : List Int) (mask gone : Int) : Prop := 0 ≤ gone ∧ gone ≤ (pre.length : Int) ∧ 0 ≤ mask ∧ mask * 2 ^ gone.toNat = maskV sign pre
theorem MaskW.small {sign : Int} {pre : List Int} {mask gone : Int} (h : MaskW sign pre mask gone) (hl : pre.length ≤ 8) : mask.natAbs < 2 ^ 64 := by
  have h1 := maskV_small sign hl
  rw [← h.2.2.2] at h1
  have hp : (1 : Int) ≤ 2 ^ gone.toNat := Int.pow_pos (by decide)
  have h2 : mask * 1 ≤ mask * 2 ^ gone.toNat := Int.mul_le_mul_of_nonneg_left hp h.2.2.1
  have := h.2.2.1
  omega
theorem MaskW.parts {sign : Int} {pre : List Int} {mask gone : Int} (h : MaskW sign pre mask gone) (hl : pre.length ≤ 8) : 0 ≤ gone ∧ gone ≤ 8 := ⟨h.1, by have := h.2.1; omega⟩
theorem MaskW.fin {sign : Int} {l : List Int} {mask gone : Int} {h h' : Heap} {t : Tok} (x : MaskW sign l mask gone) : IntR (maskV sign l) h h' (.int (mask * 2 ^ gone.toNat) t) := ⟨t, by rw [x.2.2.2]⟩
theorem MaskW.start (sign : Int) : MaskW sign [] 0 0 := ⟨by omega, by simp, by omega, by simp [maskV]⟩
theorem MaskW.miss {sign x : Int} {pre : List Int} {mask gone : Int} (h : MaskW sign pre mask gone) (hx : x ≠ sign) : MaskW sign (pre ++ [x]) mask (gone + 1) := by
  obtain ⟨a, b, c, d⟩ := h
  refine ⟨by omega, by simp; omega, c, ?_⟩
  rw [maskV_snoc, if_neg hx, ← d, show (gone + 1).toNat = gone.toNat + 1 by omega, Int.pow_succ, ← Int.mul_assoc]
  omega
theorem MaskW.hit {sign x : Int} {pre : List Int} {mask gone : Int} (h : MaskW sign pre mask gone) (hx : x = sign) : MaskW sign (pre ++ [x]) (Builtin.bitOr (mask * 2 ^ (gone + 1).toNat) 1) 0 := by
  obtain ⟨a, b, c, d⟩ := h
  have e : mask * 2 ^ (gone + 1).toNat = 2 * maskV sign pre := by
    rw [← d, show (gone + 1).toNat = gone.toNat + 1 by omega, Int.pow_succ, ← Int.mul_assoc]; omega
  have n := maskV_nonneg sign pre
  rw [e, bitOr_even_one n]
  refine ⟨by omega, by simp; omega, by omega, ?_⟩
  rw [maskV_snoc, if_pos hx]
  simp
local macro_rules | `(tactic| walk_at "call ref") => `(tactic| (k_here; k_dflt (refine' Ctr.use c_or ?B ?F ?N ?X ?T ?hf ?hk ?hd ?hu ?pre ?_; (case B => k_asm); (case F => k_asm); (case N => k_asm); (case X => k_asm); (case T => k_asm); (case hf => exact rfl); (case hk => exact rfl); (case hd => omega); (case hu => omega); (case pre => trivial); k_whole); (intro r' h' tk' F' N' e' p'); (obtain ⟨t', q'⟩ := p'; subst q'); (try dsimp only)))
local macro_rules | `(tactic| walk_at "call ref") => `(tactic| (k_here; k_dflt (refine' Ctr.use c_and ?B ?F ?N ?X ?T ?hf ?hk ?hd ?hu ?pre ?_; (case B => k_asm); (case F => k_asm); (case N => k_asm); (case X => k_asm); (case T => k_asm); (case hf => exact rfl); (case hk => exact rfl); (case hd => omega); (case hu => omega); (case pre => trivial); k_whole); (intro r' h' tk' F' N' e' p'); (obtain ⟨t', q'⟩ := p'; subst q'); (try dsimp only)))
local macro_rules | `(tactic| walk_at "call ref") => `(tactic| (k_here; k_dflt (refine' Ctr.use c_inv ?B ?F ?N ?X ?T ?hf ?hk ?hd ?hu ?pre ?_; (case B => k_asm); (case F => k_asm); (case N => k_asm); (case X => k_asm); (case T => k_asm); (case hf => exact rfl); (case hk => exact rfl); (case hd => omega); (case hu => omega); (case pre => trivial); k_whole); (intro r' h' tk' F' N' e' p'); (obtain ⟨t', q'⟩ := p'; subst q'); (try dsimp only)))
local macro_rules | `(tactic| walk_at "call ref") => `(tactic| (k_here; k_dflt (refine' Ctr.use c_lshift ?B ?F ?N ?X ?T ?hf ?hk ?hd ?hu ?pre ?_; (case B => k_asm); (case F => k_asm); (case N => k_asm); (case X => k_asm); (case T => k_asm); (case hf => exact rfl); (case hk => exact rfl); (case hd => omega); (case hu => omega); (case pre => first | k_extra "shift" | (refine ⟨?_, ?_, ?_⟩ <;> first | assumption | decide | omega)); k_whole); (intro r' h' tk' F' N' e' p'); (obtain ⟨t', q'⟩ := p'; subst q'); (try dsimp only)))

set_option maxRecDepth 100000 in
set_option maxHeartbeats 4000000 in
theorem c_mask {w : World} {row : Addr} {sign : Int} {tsign : Tok} {ns : List Int} : Ctr PySem.Challenge.rw_rw0006_01.row.prog w (hd.heap_39 w.params) hd.view_39 73 [.ref row, .int sign tsign] 9 80 (fun h => IntL h row ns ∧ ns.length ≤ 8) (IntR (maskV sign ns.reverse)) := by
  k_with_none
  w_top off
  k_fill
  intro loose mean mg mb s E Q dp un gd frs base B X T hd hu pre ret
  obtain ⟨g, gens, drawn, toks, os⟩ := s
  dsimp only at B X T pre ret
  k_dflt (refine' enterR (args := ⟨_, []⟩) (binds := [(Str.ofString "row", .ref row),(Str.ofString "sign", .int sign tsign)]) ?k1 ?k2 ?k3 ?k6 ?k7 ?k8 ?k9 ?kB ?c2 ?c3 ?c4 ?c5 ?_; (case k1 => k_asm); (case k2 => k_asm); (case k3 => k_asm); (case k6 => k_is); (case k7 => k_is); (case k8 => omega); (case k9 => exact BindsTo.of_eq rfl); (case c5 => decide); (case kB => exact locs rfl); (case c2 => exact rfl); (case c3 => exact rfl); (case c4 => exact rfl); k_whole)
  intro h₁ F
  have N : News g g.objs.size h₁ [] := News.nil
  have KX := X
  dsimp only at *
  k_unmd
  k_fold
  obtain ⟨vs, hl, hi⟩ := pre.1
  have hlen := pre.2
  (k_with "pyIter ref" => k_state (fun pre mask gone => MaskW sign pre mask gone) "mask" "gone")
  (k_with "state" => first | exact MaskW.start _ | exact MaskW.miss (by assumption) (by assumption) | exact MaskW.hit (by assumption) (by assumption))
  (k_with "shift" => (have hW := MaskW.small (by assumption) (by simp only [List.length_reverse] at *; omega)); (have hV := MaskW.parts (by assumption) (by simp only [List.length_reverse] at *; omega)); exact ⟨hW, by omega, by omega⟩)
  k_steps
  k_with_none
  all_goals (
    exact ret _ _ _ (fun b o e => Fr.keep (by assumption) b o e) (MaskW.fin (by assumption)))
end Mine
end

section
open PySem PySem.W PyProof.Rows PySem.Calls PySem.Spec
namespace Mine
/-- a goal set aside from the walk -/
def Hold (P : Prop) : Prop := P
theorem Hold.out {P : Prop} (h : Hold P) : P := h
theorem Hold.hold {P : Prop} (h : P) : Hold P := h
section
variable {prog : Program} {w : World} {A : Around} {E : Value → Shared → Prop} {Q : Flow → Shared → Prop} {s : Shared} {env : Env} {h₀ : Heap} {L : Addr}

def WEnd (h₀ : Heap) (L : Addr) (s : Shared) (J : Nat → (Str → Option Value) → List (Addr × Obj) → Prop) (n : Nat) (s₃ : Shared) : Prop :=
  ∃ h' tk m₂ news₂ n', s₃ = { s with heap := h', toks := tk } ∧ Fr h₀ L h' m₂ ∧ News h₀ L h' news₂ ∧ n' < n ∧ J n' m₂ news₂
def WPost (h₀ : Heap) (L : Addr) (s : Shared) (J : Nat → (Str → Option Value) → List (Addr × Obj) → Prop) (n : Nat) (Q : Flow → Shared → Prop) (f : Flow) (s₃ : Shared) : Prop :=
  match f with
  | .ret v => Q (.ret v) s₃
  | .brk => Q .next s₃
  | _ => WEnd h₀ L s J n s₃
theorem WEnd.intro {h' : Heap} {J : Nat → (Str → Option Value) → List (Addr × Obj) → Prop} {n n' tk : Nat} {m₂ : Str → Option Value} {news₂ : List (Addr × Obj)}
    (F : Fr h₀ L h' m₂) (N : News h₀ L h' news₂) (hn : n' < n) (hJ : J n' m₂ news₂) : WEnd h₀ L s J n { s with heap := h', toks := tk } := ⟨h', tk, m₂, news₂, n', rfl, F, N, hn, hJ⟩

/-- a while with an else and breaks, by an invariant and a measure -/
theorem whileG {test : Expr} {body orelse : List Stmt} {pos : Pos} {m : Str → Option Value} {news : List (Addr × Obj)} (J : Nat → (Str → Option Value) → List (Addr × Obj) → Prop) {n₀ : Nat}
    (F : Fr h₀ L s.heap m) (N : News h₀ L s.heap news) (hJ : J n₀ m news)
    (turn : ∀ n m₁ news₁ h₁ tk₁, Fr h₀ L h₁ m₁ → News h₀ L h₁ news₁ → J n m₁ news₁ →
      wpAny (model prog w) A (isTrue test env (eval test env)) (fun b s₂ =>
        if b = true then wpAny (model prog w) A (execs body env) (WPost h₀ L s J n Q) E s₂ else wpAny (model prog w) A (execs orelse env) Q E s₂) E { s with heap := h₁, toks := tk₁ })
    (hE : PassesOwn (model prog w) A env E := by passes_own) :
    wpAny (model prog w) A (exec (.While test body orelse pos) env) Q E s := by
  refine wpAny_While (codeAny_whileLoop (fun n s' => ∃ h₁ tk₁ m₁ news₁, s' = { s with heap := h₁, toks := tk₁ } ∧ Fr h₀ L h₁ m₁ ∧ News h₀ L h₁ news₁ ∧ J n m₁ news₁) ?_ n₀ ⟨s.heap, s.toks, m, news, rfl, F, N, hJ⟩)
  rintro n s' ⟨h₁, tk₁, m₁, news₁, rfl, F₁, N₁, J₁⟩
  refine wpAny_mono (turn n m₁ news₁ h₁ tk₁ F₁ N₁ J₁) (fun b s₂ h₂ => ?_) hE
  cases b with
  | false =>
    simp only [Bool.false_eq_true, if_false] at h₂ ⊢
    exact wpAny_mono h₂ (fun f s₃ h₃ => h₃) hE
  | true =>
    simp only [if_true] at h₂ ⊢
    refine wpAny_mono h₂ (fun f s₃ h₃ => ?_) hE
    have fin : WEnd h₀ L s J n s₃ → ∃ m, m < n ∧ ∃ h₁ tk₁ m₁ news₁, s₃ = { s with heap := h₁, toks := tk₁ } ∧ Fr h₀ L h₁ m₁ ∧ News h₀ L h₁ news₁ ∧ J m m₁ news₁ := by
      rintro ⟨h', tk, m₂, news₂, n', rfl, F₂, N₂, hn, J₂⟩
      exact ⟨n', hn, h', tk, m₂, news₂, rfl, F₂, N₂, J₂⟩
    cases f with
    | ret v => exact h₃
    | brk => exact h₃
    | next => exact fin h₃
    | cont => exact fin h₃
end
end Mine
end

section

namespace Mine
/-- the greatest number up to k of which p holds; nought if none -/
def maxB (p : Nat → Bool) : Nat → Nat
  | 0 => 0
  | k + 1 => if p (k + 1) then k + 1 else maxB p k
theorem maxB_le (p : Nat → Bool) : ∀ k, maxB p k ≤ k
  | 0 => Nat.le_refl 0
  | k + 1 => by
    unfold maxB
    split
    · exact Nat.le_refl _
    · exact Nat.le_succ_of_le (maxB_le p k)
theorem maxB_holds (p : Nat → Bool) (h0 : p 0 = true) : ∀ k, p (maxB p k) = true
  | 0 => h0
  | k + 1 => by
    unfold maxB
    split
    · assumption
    · exact maxB_holds p h0 k
theorem maxB_greatest (p : Nat → Bool) : ∀ k j, j ≤ k → p j = true → j ≤ maxB p k
  | 0, j, h, _ => h
  | k + 1, j, h, hp => by
    unfold maxB
    split
    · exact h
    · rename_i hn
      rcases Nat.lt_or_ge j (k + 1) with hlt | hge
      · exact maxB_greatest p k j (Nat.le_of_lt_succ hlt) hp
      · have : j = k + 1 := Nat.le_antisymm h hge
        subst this
        exact absurd hp hn

/-- the first k signs are the last k of the first i -/
abbrev Bord (ns : List Int) (i k : Nat) : Prop := k ≤ i ∧ ∀ j, j < k → ns[i - k + j]? = ns[j]?
def bd (ns : List Int) (i : Nat) : Nat := maxB (fun k => decide (Bord ns i k)) (i - 1)
theorem Bord.zero (ns : List Int) (i : Nat) : Bord ns i 0 := ⟨Nat.zero_le _, fun _ h => absurd h (Nat.not_lt_zero _)⟩
theorem Bord.self (ns : List Int) (i : Nat) : Bord ns i i := ⟨Nat.le_refl _, fun j _ => by rw [Nat.sub_self, Nat.zero_add]⟩
theorem bd_le (ns : List Int) (i : Nat) : bd ns i ≤ i - 1 := maxB_le _ _
theorem bd_bord (ns : List Int) (i : Nat) : Bord ns i (bd ns i) := of_decide_eq_true (maxB_holds (fun k => decide (Bord ns i k)) (decide_eq_true (Bord.zero ns i)) (i - 1))
theorem bd_max (ns : List Int) {i k : Nat} (h : Bord ns i k) (hk : k < i) : k ≤ bd ns i := maxB_greatest _ _ _ (by omega) (decide_eq_true h)

theorem Bord.trans {ns : List Int} {i j k : Nat} (a : Bord ns i j) (b : Bord ns j k) : Bord ns i k := by
  refine ⟨Nat.le_trans b.1 a.1, fun q hq => ?_⟩
  have h1 := b.2 q hq
  have h2 := a.2 (j - k + q) (by have := b.1; omega)
  rw [← h1, ← h2]
  have := a.1; have := b.1
  rw [show i - j + (j - k + q) = i - k + q by omega]
theorem Bord.down {ns : List Int} {i j k : Nat} (a : Bord ns i j) (b : Bord ns i k) (h : k ≤ j) : Bord ns j k := by
  refine ⟨h, fun q hq => ?_⟩
  have h1 := b.2 q hq
  have h2 := a.2 (j - k + q) (by omega)
  rw [← h1, ← h2]
  have := a.1
  rw [show i - j + (j - k + q) = i - k + q by omega]
theorem Bord.grow {ns : List Int} {i k : Nat} (a : Bord ns i k) (h : ns[i]? = ns[k]?) : Bord ns (i + 1) (k + 1) := by
  refine ⟨Nat.succ_le_succ a.1, fun q hq => ?_⟩
  have := a.1
  rw [show i + 1 - (k + 1) + q = i - k + q by omega]
  rcases Nat.lt_or_ge q k with hlt | hge
  · exact a.2 q hlt
  · have : q = k := by omega
    subst this
    rw [show i - q + q = i by omega]; exact h
theorem Bord.shrink {ns : List Int} {i k : Nat} (a : Bord ns (i + 1) (k + 1)) : Bord ns i k ∧ ns[i]? = ns[k]? := by
  have := a.1
  refine ⟨⟨by omega, fun q hq => ?_⟩, ?_⟩
  · have := a.2 q (by omega)
    rwa [show i + 1 - (k + 1) + q = i - k + q by omega] at this
  · have := a.2 k (by omega)
    rwa [show i + 1 - (k + 1) + k = i by omega] at this

/-- the inner loop's word -/
def WInv (ns : List Int) (i q : Nat) : Prop := q < i ∧ Bord ns i q ∧ ∀ k, k < i → q < k → Bord ns i k → ns[i]? ≠ ns[k]?
theorem WInv.start {ns : List Int} {i : Nat} (h : 1 ≤ i) : WInv ns i (bd ns i) :=
  ⟨by have := bd_le ns i; omega, bd_bord ns i, fun k hk hq hb => absurd (bd_max ns hb hk) (by omega)⟩
theorem WInv.step {ns : List Int} {i q : Nat} (h : WInv ns i q) (hne : ns[i]? ≠ ns[q]?) (h0 : q ≠ 0) : WInv ns i (bd ns q) := by
  have hlt : bd ns q < q := by have := bd_le ns q; omega
  refine ⟨Nat.lt_trans hlt h.1, h.2.1.trans (bd_bord ns q), fun k hk hq hb => ?_⟩
  rcases Nat.lt_trichotomy k q with h1 | h1 | h1
  · have := bd_max ns (h.2.1.down hb (Nat.le_of_lt h1)) h1
    omega
  · subst h1; exact hne
  · exact h.2.2 k hk h1 hb
theorem WInv.miss {ns : List Int} {i : Nat} (h : WInv ns i 0) (hne : ns[i]? ≠ ns[0]?) : bd ns (i + 1) = 0 := by
  have hb := bd_bord ns (i + 1)
  have hl := bd_le ns (i + 1)
  cases hk : bd ns (i + 1) with
  | zero => rfl
  | succ k =>
    exfalso
    rw [hk] at hb hl
    obtain ⟨hb', he⟩ := hb.shrink
    cases k with
    | zero => exact hne he
    | succ k => exact h.2.2 (k + 1) (by omega) (by omega) hb' he
theorem WInv.hit {ns : List Int} {i q : Nat} (h : WInv ns i q) (he : ns[i]? = ns[q]?) : bd ns (i + 1) = q + 1 := by
  have h1 := bd_max ns (h.2.1.grow he) (by have := h.1; omega)
  have hb := bd_bord ns (i + 1)
  have hl := bd_le ns (i + 1)
  cases hk : bd ns (i + 1) with
  | zero => omega
  | succ k =>
    rw [hk] at hb hl h1
    obtain ⟨hb', he'⟩ := hb.shrink
    rcases Nat.lt_or_ge q k with hlt | hge
    · exact absurd he' (h.2.2 k (by omega) hlt hb')
    · omega
end Mine
end

section

namespace Mine
/-- a border, its border, and so on down to none -/
def chainL (ns : List Int) : Nat → List Nat
  | 0 => [0]
  | k + 1 => (k + 1) :: chainL ns (bd ns (k + 1))
termination_by k => k
decreasing_by have := bd_le ns (k + 1); omega
theorem chainL_zero (ns : List Int) : chainL ns 0 = [0] := by rw [chainL]
theorem chainL_pos (ns : List Int) {q : Nat} (h : q ≠ 0) : chainL ns q = q :: chainL ns (bd ns q) := by
  cases q with
  | zero => exact absurd rfl h
  | succ k => rw [chainL]
theorem chainL_le (ns : List Int) : ∀ q, ∀ k ∈ chainL ns q, k ≤ q := by
  intro q
  induction q using Nat.strongRecOn with
  | _ q ih =>
    intro k hk
    by_cases h : q = 0
    · subst h
      rw [chainL_zero] at hk
      simp at hk; omega
    · rw [chainL_pos ns h] at hk
      have hlt : bd ns q < q := by have := bd_le ns q; omega
      rcases List.mem_cons.mp hk with rfl | hk
      · exact Nat.le_refl _
      · exact Nat.le_trans (ih _ hlt k hk) (Nat.le_of_lt hlt)
theorem chainL_length (ns : List Int) : ∀ q, (chainL ns q).length ≤ q + 1 ∧ 1 ≤ (chainL ns q).length := by
  intro q
  induction q using Nat.strongRecOn with
  | _ q ih =>
    by_cases h : q = 0
    · subst h
      rw [chainL_zero]; simp
    · rw [chainL_pos ns h]
      have hlt : bd ns q < q := by have := bd_le ns q; omega
      have := ih _ hlt
      simp only [List.length_cons]
      omega
/-- the laps that are asked -/
def lapsL (ns : List Int) (size : Nat) : List Nat := (chainL ns size).filter (· < ns.length)
/-- the loop's word: the laps met so far -/
def LapW (ns : List Int) (size : Nat) (ls : List Int) (q : Nat) : Prop := ∃ pre : List Nat, ls = (pre ++ [q]).map (fun k : Nat => (k : Int)) ∧ pre ++ chainL ns q = chainL ns size
theorem LapW.start (ns : List Int) (size : Nat) : LapW ns size [(size : Int)] size := ⟨[], rfl, rfl⟩
theorem LapW.step {ns : List Int} {size q : Nat} {ls : List Int} (h : LapW ns size ls q) (hq : q ≠ 0) : LapW ns size (ls ++ [(bd ns q : Int)]) (bd ns q) := by
  obtain ⟨pre, rfl, h2⟩ := h
  refine ⟨pre ++ [q], by simp, ?_⟩
  rw [← h2, chainL_pos ns hq]
  simp
theorem LapW.done {ns : List Int} {size : Nat} {ls : List Int} (h : LapW ns size ls 0) : ls = (chainL ns size).map (fun k : Nat => (k : Int)) := by
  obtain ⟨pre, rfl, h2⟩ := h
  rw [← h2, chainL_zero]
theorem LapW.last {ns : List Int} {size q : Nat} {ls : List Int} (h : LapW ns size ls q) : ls ≠ [] ∧ ls[ls.length - 1]? = some (q : Int) := by
  obtain ⟨pre, rfl, _⟩ := h
  refine ⟨by simp, ?_⟩
  simp
theorem LapW.le {ns : List Int} {size q : Nat} {ls : List Int} (h : LapW ns size ls q) : q ≤ size := by
  obtain ⟨pre, _, h2⟩ := h
  refine chainL_le ns size q ?_
  rw [← h2]
  refine List.mem_append_right _ ?_
  by_cases hq : q = 0
  · subst hq; rw [chainL_zero]; exact .head _
  · rw [chainL_pos ns hq]; exact .head _
theorem LapW.len {ns : List Int} {size q : Nat} {ls : List Int} (h : LapW ns size ls q) : ls.length ≤ size + 1 := by
  obtain ⟨pre, rfl, h2⟩ := h
  have h3 := congrArg List.length h2
  have h4 := chainL_length ns size
  have h5 := chainL_length ns q
  simp only [List.length_append, List.length_map, List.length_cons, List.length_nil] at *
  omega
/-- to where the sign leads -/
def aft (ns : List Int) (size : Nat) (c : Int) : Int := match (lapsL ns size).find? (fun k => decide (ns[k]? = some c)) with
  | some k => (k : Int) + 1
  | none => 0
theorem aft_hit {ns : List Int} {size i : Nat} {c : Int} (h : ((lapsL ns size).map fun k => ns[k]?)[i]? = some (some c)) (hn : ∀ j, j < i → ((lapsL ns size).map fun k => ns[k]?)[j]? ≠ some (some c)) :
    ∃ k, (lapsL ns size)[i]? = some k ∧ aft ns size c = (k : Int) + 1 := by
  unfold aft
  generalize lapsL ns size = l at h hn
  induction l generalizing i with
  | nil => simp at h
  | cons a r ih =>
    cases i with
    | zero =>
      simp at h
      exact ⟨a, rfl, by simp [h]⟩
    | succ i =>
      have h0 : ns[a]? ≠ some c := fun e => hn 0 (Nat.succ_pos _) (by simp [e])
      have h' : (r.map fun k => ns[k]?)[i]? = some (some c) := by simpa using h
      obtain ⟨k, hk, he⟩ := ih h' fun j hj => by
        have := hn (j + 1) (Nat.succ_lt_succ hj)
        simpa using this
      refine ⟨k, by simpa using hk, ?_⟩
      rw [← he]
      simp [List.find?_cons, h0]
theorem aft_miss {ns : List Int} {size : Nat} {c : Int} (h : ∀ k ∈ lapsL ns size, ns[k]? ≠ some c) : aft ns size c = 0 := by
  unfold aft
  rw [List.find?_eq_none.mpr fun k hk => by simpa using h k hk]
end Mine
end

section
open PySem PySem.W PyProof.Rows PySem.Calls
namespace Mine

theorem getD_ne {ns : List Int} {a b : Nat} (h : ns.getD (a : Int).toNat 0 ≠ ns.getD (b : Int).toNat 0) : ns[a]? ≠ ns[b]? := fun e => h (by
  simp only [Int.toNat_natCast, List.getD_eq_getElem?_getD, e])
theorem getD_eq {ns : List Int} {a b : Nat} (ha : a < ns.length) (hb : b < ns.length) (h : ns.getD (a : Int).toNat 0 = ns.getD (b : Int).toNat 0) : ns[a]? = ns[b]? := by
  simp only [Int.toNat_natCast, List.getD_eq_getElem?_getD] at h
  rw [List.getElem?_eq_getElem ha, List.getElem?_eq_getElem hb] at h ⊢
  simpa using h

/-- the table -/
def tabF (ns : List Int) : List Int := (List.range ns.length).map fun p => (bd ns (p + 1) : Int)
def TabW (ns : List Int) (i : Nat) (tn : List Int) : Prop := tn.length = ns.length ∧ ∀ p, p < ns.length → tn[p]? = some (if p ≤ i then (bd ns (p + 1) : Int) else 0)
theorem bd_one (ns : List Int) : bd ns 1 = 0 := by have := bd_le ns 1; omega
theorem TabW.start {ns : List Int} : TabW ns 0 (List.replicate (ns.length : Int).toNat [(0 : Int)]).flatten := by
  have e : (List.replicate (ns.length : Int).toNat [(0 : Int)]).flatten = List.replicate ns.length 0 := by
    rw [Int.toNat_natCast]
    induction ns.length with
    | zero => rfl
    | succ n ih => rw [List.replicate_succ, List.flatten_cons, ih, List.replicate_succ]; rfl
  rw [e]
  refine ⟨List.length_replicate, fun p hp => ?_⟩
  rw [List.getElem?_replicate, if_pos hp]
  split
  · have : p = 0 := by omega
    subst this
    rw [bd_one]; rfl
  · rfl
theorem TabW.set {ns tn : List Int} {i : Nat} (h : TabW ns i tn) (hi : i + 1 < ns.length) {v : Int} (hv : v = (bd ns (i + 1 + 1) : Int)) : TabW ns (i + 1) (tn.set (i + 1) v) := by
  refine ⟨by rw [List.length_set]; exact h.1, fun p hp => ?_⟩
  rw [List.getElem?_set]
  have := h.1
  by_cases e : i + 1 = p
  · subst e
    rw [if_pos rfl, if_pos (by omega), if_pos (Nat.le_refl _), hv]
  · rw [if_neg e, h.2 p hp]
    by_cases e2 : p ≤ i
    · rw [if_pos e2, if_pos (by omega)]
    · rw [if_neg e2, if_neg (by omega)]
theorem TabW.get {ns tn : List Int} {i p : Nat} (h : TabW ns i tn) (hp : p < ns.length) (hi : p ≤ i) : tn.getD p 0 = (bd ns (p + 1) : Int) := by
  rw [List.getD_eq_getElem?_getD, h.2 p hp, if_pos hi]; rfl
theorem TabW.done {ns tn : List Int} {i : Nat} (h : TabW ns i tn) (hi : ns.length ≤ i + 1) : tn = tabF ns := by
  apply List.ext_getElem?
  intro p
  unfold tabF
  by_cases hp : p < ns.length
  · rw [h.2 p hp, if_pos (by omega)]
    simp [hp]
  · rw [List.getElem?_eq_none (by have := h.1; omega), List.getElem?_eq_none (by simp; omega)]

def TabJ (row : Addr) (ns : List Int) (T l1 : Addr) (o1 : Obj) (i : Nat) (m : Str → Option Value) (nx : List (Addr × Obj)) : Prop :=
  ∃ vals tn, nx = [(T, W.listOf (vals : List Value).toArray 0), (l1, o1)] ∧ IntsAre vals tn ∧ TabW ns i tn ∧ m (Str.ofString "prefix") = some (.ref row) ∧ m (Str.ofString "table") = some (.ref T)
def WhJ (row : Addr) (ns : List Int) (T : Addr) (NX : List (Addr × Obj)) (i : Nat) (q : Nat) (m : Str → Option Value) (nx : List (Addr × Obj)) : Prop :=
  nx = NX ∧ WInv ns i q ∧ m (Str.ofString "prefix") = some (.ref row) ∧ m (Str.ofString "table") = some (.ref T) ∧ (∃ t, m (Str.ofString "idx") = some (.int (q : Int) t)) ∧ ∃ t, m (Str.ofString "i") = some (.int (i : Int) t)

set_option maxRecDepth 100000 in
set_option maxHeartbeats 4000000 in
theorem c_tab {w : World} {row : Addr} {ns : List Int} : Ctr PySem.Challenge.rw_rw0006_01.row.prog w (hd.heap_39 w.params) hd.view_39 21 [.ref row] 9 80 (fun h => IntL h row ns ∧ ns.length ≤ 8) (fun h h' r => ∃ l, r = .ref l ∧ h.get? l = none ∧ IntL h' l (tabF ns)) := by
  k_with_none
  w_top off
  k_fill
  intro loose mean mg mb s E Q dp un gd frs base B X T hd hu pre ret
  obtain ⟨g, gens, drawn, toks, os⟩ := s
  dsimp only at B X T pre ret
  k_dflt (refine' enterR (args := ⟨_, []⟩) (binds := [(Str.ofString "prefix", .ref row)]) ?k1 ?k2 ?k3 ?k6 ?k7 ?k8 ?k9 ?kB ?c2 ?c3 ?c4 ?c5 ?_; (case k1 => k_asm); (case k2 => k_asm); (case k3 => k_asm); (case k6 => k_is); (case k7 => k_is); (case k8 => omega); (case k9 => exact BindsTo.of_eq rfl); (case c5 => decide); (case kB => exact locs rfl); (case c2 => exact rfl); (case c3 => exact rfl); (case c4 => exact rfl); k_whole)
  intro h₁ F
  have N : News g g.objs.size h₁ [] := News.nil
  have KX := X
  dsimp only at *
  k_unmd
  k_fold
  obtain ⟨vs, hl, hi⟩ := pre.1
  have hlen := pre.2
  (k_with "exec For Name Call cons nil" => (k_here; (rename Fr _ _ _ _ => lF'); (with_unfolding_all refine' For_invVF lF' ?k1 ?k2 ?_; (case k1 => exact rfl); (case k2 => exact rfl); k_whole)))
  (k_with "pyIter ref" => refine Hold.out ?_)
  k_steps
  k_with_none
  refine Hold.hold ?_
  (try dsimp only)
  rename Fr _ _ _ _ => F1
  rename News _ _ _ _ => N1
  rename IsRange _ _ _ _ _ _ _ _ => R1
  rename IntsAre (List.flatten _) _ => I1
  refine iterRng (n := ns.length - 1) (TabJ row ns _ _ _) rfl R1 ?_ ?_ F1 N1 ⟨_, _, rfl, I1, TabW.start, rfl, rfl⟩ ?_ ?_
  · exact small_one (by decide) (by decide) (by omega) (by omega)
  · rw [rangeSize_nat]; omega
  · intro i k tk' m₁ news₁ h tk own hin hk hadr hoff hJ F2 N2
    obtain ⟨vals, tn, rfl, hI, hW, hm1, hm2⟩ := hJ
    obtain rfl : k = ((i + 1 : Nat) : Int) := by omega
    have F3 := F2.known0 (n := (Str.ofString "prefix")) (w := .ref row) (by (try dsimp only); (repeat rw [if_neg (by decide)]); assumption)
    have F4 := F3.known0 (n := (Str.ofString "table")) (by (try dsimp only); (repeat rw [if_neg (by decide)]); assumption)
    have hTl := hW.1
    clear F2 F3
    simp only [List.cons_append, List.nil_append] at N2
    k_unmd
    k_fold
    (k_with "exec While" => refine Hold.out ?_)
    k_steps
    k_with_none
    refine Hold.hold ?_
    (try dsimp only)
    have e2 : tn.getD (((i + 1 : Nat) : Int) - 1).toNat 0 = (bd ns (i + 1) : Int) := by
      rw [show (((i + 1 : Nat) : Int) - 1).toNat = i by omega]; exact hW.get (by omega) (Nat.le_refl i)
    rename Fr _ _ _ _ => F5
    rw [e2] at F5
    rename News _ _ _ _ => N5
    refine whileG (WhJ row ns _ _ (i + 1)) F5 N5 ⟨rfl, WInv.start (by omega), rfl, rfl, ⟨_, rfl⟩, ⟨_, rfl⟩⟩ ?_
    intro q m₂ nx h₂ tk₂ F6 N6 hJ
    obtain ⟨rfl, hV, hm3, hm4, ⟨t5, hm5⟩, ⟨t6, hm6⟩⟩ := hJ
    have F7 := F6.known0 (n := (Str.ofString "prefix")) (w := .ref row) hm3
    have F8 := F7.known0 (n := (Str.ofString "table")) (w := .ref _) (by (try dsimp only); (repeat rw [if_neg (by decide)]); exact hm4)
    have F9 := F8.known0 (n := (Str.ofString "idx")) (w := .int q t5) (by (try dsimp only); (repeat rw [if_neg (by decide)]); exact hm5)
    have F10 := F9.known0 (n := (Str.ofString "i")) (w := .int ((i + 1 : Nat) : Int) t6) (by (try dsimp only); (repeat rw [if_neg (by decide)]); exact hm6)
    clear F7 F8 F9
    clear F6 F5
    have hq := hV.1
    k_unmd
    k_fold
    k_steps
    · rename Fr _ _ _ _ => Fz
      rename News _ _ _ _ => Nz
      rename IntsAre (List.set _ _ _) _ => Iz
      rename ((q : Int) = 0) => hq0
      rename (_ ≠ List.getD _ _ _) => hne
      have hq1 : q = 0 := by omega
      subst hq1
      refine wpAny_execs_nil ?_
      k_unfold
      (try dsimp only [InvPostN])
      refine InvEndN.intro Fz Nz ⟨_, _, rfl, Iz, hW.set (by omega) ?_, rfl, rfl⟩ rfl ?_ ?_
      · rw [hV.miss (getD_ne hne)]; rfl
      · intro p hp; exact List.mem_append_left _ hp
      · intro p hp; exact .tail _ (.tail _ hp)
    · rename Fr _ _ _ _ => Fz
      rename News _ _ _ _ => Nz
      rename ((q : Int) ≠ 0) => hq0
      rename (_ ≠ List.getD _ _ _) => hne
      have e3 : tn.getD ((q : Int) - 1).toNat 0 = (bd ns q : Int) := by
        rw [show ((q : Int) - 1).toNat = q - 1 by omega, hW.get (by omega) (by omega), show q - 1 + 1 = q by omega]
      rw [e3] at Fz
      have hlt := bd_le ns q
      exact WEnd.intro Fz Nz (by omega) ⟨rfl, hV.step (getD_ne hne) (by omega), rfl, rfl, ⟨_, rfl⟩, ⟨_, rfl⟩⟩
    · rename Fr _ _ _ _ => Fz
      rename News _ _ _ _ => Nz
      rename IntsAre (List.set _ _ _) _ => Iz
      rename (_ = List.getD _ _ _) => heq
      refine InvEndN.intro Fz Nz ⟨_, _, rfl, Iz, hW.set (by omega) ?_, rfl, rfl⟩ rfl ?_ ?_
      · rw [hV.hit (getD_eq (by omega) (by omega) heq)]; rfl
      · intro p hp; exact List.mem_append_left _ hp
      · intro p hp; exact .tail _ (.tail _ hp)
  · intro m₁ news₁ h tk hadr hJ F2 N2
    obtain ⟨vals, tn, rfl, hI, hW, hm1, hm2⟩ := hJ
    have F3 := F2.known0 (n := (Str.ofString "table")) hm2
    clear F2
    have hT := hW.done (by omega)
    subst hT
    (try dsimp only)
    k_unmd
    (try k_fold)
    k_steps
    exact ret _ _ _ (fun b o e => Fr.keep (by assumption) b o e) ⟨_, rfl, (N2 _ (.head _)).2.2, _, News.isList N2 (.head _), hI⟩
end Mine
end

section
open PySem PySem.W PyProof.Rows PySem.Calls PySem.Spec
namespace Mine
section
variable {prog : Program} {w : World} {K : Frag} {p : Program} {loose : List Str} {mean : ExcName → Option Value} {mg mb : Str → Option Value} {s : Shared} {E : Value → Shared → Prop} {Q : Value → Shared → Prop}
  {name qual : Str} {params : Arguments} {body : List Stmt} {scope : Scope} {dV kV doc pm cdv ct oc : Value} {an od : Option Addr} {osl : Array (Option Value)} {f : Addr} {args : Args} {binds : List (Str × Value)} {dp un : Nat} {gd : Option (List Code)} {frs : List Env}

/-- entering a def with cells: all that stands is kept -/
theorem enterRC {base : Heap} (_B : Below (arnd dp un gd frs) base frs s.heap) (X : K.In s.heap) (T : Top p loose mean mg mb s.heap)
    (ho : K.lookup f = some ⟨oc, od, .func (fnOf name qual params body scope dV kV doc pm an cdv ct), osl⟩) (hcd : codeIn K cdv qual = true) (hroom : dp < recursionLimit)
    (hbind : BindsTo s (fnOf name qual params body scope dV kV doc pm an cdv ct) args binds) (hkind : (binds.all fun y => scope.names.lookup y.1 == some .local || scope.names.lookup y.1 == some .cell) = true)
    (hnd : ((cellsFrom 0 scope.names []).map (·.1)).Nodup)
    (hco : scope.isCoroutine = false) (hgen : scope.isGenerator = false) (hk : scope.kind = .function)
    (h : ∀ h₁ tk cells, s.toks ≤ tk → Fr s.heap s.heap.objs.size h₁ (bindL (envOfC qual scope s.heap.objs.size f cdv).kindOf binds fun _ => none) → News s.heap s.heap.objs.size h₁ cells →
      CellsAre (bindC (envOfC qual scope s.heap.objs.size f cdv).kindOf binds fun _ => none) (cellsFrom (s.heap.objs.size + 1) scope.names []) cells →
      wpAny (model prog w) (arnd (dp + 1) (un + 3) gd (envOfC qual scope s.heap.objs.size f cdv :: frs)) (execs body (envOfC qual scope s.heap.objs.size f cdv))
        (fun fl s' => Q (match fl with | .ret v => v | _ => .none) s')
        (fun e s' => wpAny (model prog w) (arnd (dp + 1) (un + 3) gd (envOfC qual scope s.heap.objs.size f cdv :: frs)) (leaving (envOfC qual scope s.heap.objs.size f cdv) e) (fun _ s'' => E e s'') (fun e' s'' => E e' s'') s')
        { s with heap := h₁, toks := tk }) :
    wpAny (model prog w) (arnd dp un gd frs) (call (.ref f) args.pos args.kw) Q E s := by
  refine wpAny_call (codeAny_call_function hroom (X _ _ ho) rfl hco hgen rfl (codeRec_of X hcd) (hbind _ _ _ _ ?_))
  refine wpAny_with_toks (Nat.le_refl _) (wpAny_newFunctionEnv_cells hk (kindsX hkind _) fun env' he s' x hle => ?_)
  subst he
  refine ⟨T.nolimit.keeps x.toInCall.keep, codeAny_func ?_⟩
  obtain ⟨h₁, tk, rfl, _⟩ := x.done
  have hk₁ := x.toInCall.keep
  obtain ⟨cells, NC, Y⟩ := Cl.news (h₀ := s.heap) (Nat.le_refl _) fun n c hm => ⟨x.cell n c (lookup_of_mem_nodup (cellsFrom_names scope.names 0 (s.heap.objs.size + 1) [] [] rfl ▸ hnd) hm), x.above n c hm⟩
  exact h h₁ tk cells hle ⟨x.toInCall.ns, hk₁, Nat.le_refl _⟩ NC Y
end
end Mine
end

section
open PySem PySem.W PyProof.Rows PySem.Calls
namespace Mine
local macro_rules | `(tactic| walk_at "pad of mine") => `(tactic| fail)

set_option maxRecDepth 100000 in
set_option maxHeartbeats 4000000 in
theorem c_whole {w : World} {row : Addr} {ns : List Int} : Ctr PySem.Challenge.rw_rw0006_01.row.prog w (hd.heap_39 w.params) hd.view_39 66 [.ref row] 9 80 (fun h => IntL h row ns ∧ ns.length ≤ 100) (fun _ _ r => r = .bool true) := by
  k_with_none
  w_top off
  k_fill
  intro loose mean mg mb s E Q dp un gd frs base B X T hd hu pre ret
  obtain ⟨g, gens, drawn, toks, os⟩ := s
  dsimp only at B X T pre ret
  k_dflt (refine' enterR (args := ⟨_, []⟩) (binds := [(Str.ofString "numbers", .ref row)]) ?k1 ?k2 ?k3 ?k6 ?k7 ?k8 ?k9 ?kB ?c2 ?c3 ?c4 ?c5 ?_; (case k1 => k_asm); (case k2 => k_asm); (case k3 => k_asm); (case k6 => k_is); (case k7 => k_is); (case k8 => omega); (case k9 => exact BindsTo.of_eq rfl); (case c5 => decide); (case kB => exact locs rfl); (case c2 => exact rfl); (case c3 => exact rfl); (case c4 => exact rfl); k_whole)
  intro h₁ F
  have N : News g g.objs.size h₁ [] := News.nil
  have KX := X
  dsimp only at *
  k_unmd
  k_fold
  obtain ⟨vs, hl, hi⟩ := pre.1
  have hlen := pre.2
  (k_with "exec Assign cons ListComp" => (k_here; (with_reducible apply Assign_ListComp_DCn); (case hsw => with_unfolding_all rfl); (case hL => with_unfolding_all rfl); (case hh => with_unfolding_all rfl); (case hclos => with_unfolding_all rfl); (case hcell => decide); (case hkind => with_unfolding_all rfl); (case hnames => decide); (case hx => with_unfolding_all rfl); (case hy => with_unfolding_all rfl); (case hp => with_unfolding_all rfl); (case hs => intro _; with_unfolding_all rfl); (case' h => with_reducible refine wpAny_compPack ?_)))
  k_steps
  k_with_none
  have key : decide (List.map (fun a => a) (List.filter (fun _ => false) ns) = []) = true := by simp
  exact (congrArg (fun b => Q (Value.bool b) _) key).mpr (ret _ _ _ (fun b o e => Fr.keep (by assumption) b o e) rfl)
end Mine
end

section
open PySem PySem.W PyProof.Rows PySem.Calls PySem.Spec
namespace Mine
section
variable {prog : Program} {w : World} {A : Around} {s : Shared} {env : Env}

/-- a loop upon enumerate of a list: the body turns no object -/
theorem forEnumS {R : Result → Shared → Prop} {g : Heap} {xi xv : Str} {pi pv pt : Pos} {x1} {body orelse : List Stmt} {e it l : Addr} {items : Array Value} {m : Str → Option Value}
    (hh : A.handled = none) (hxi : env.kindOf xi = some .local) (hxv : env.kindOf xv = some .local)
    (hp : (env.scope.kind == .class || (env.scope.kind == .module && env.locals != env.globals)) = false)
    (hei : e ≠ it) (heL : e ≠ env.locals) (hiL : it ≠ env.locals) (hlL : l ≠ env.locals) (hle : l ≠ e) (hli : l ≠ it) (hge : g.get? e = none) (hgi : g.get? it = none)
    (he : IsEnum s.heap e it 0 .none) (hit : s.heap.IsListIter it l 0) (hl : s.heap.IsList l items) (F : Fr g env.locals s.heap m)
    (J : Nat → Prop) (h0 : J 0)
    (step : ∀ i v tk (m₁ : Str → Option Value) h tk', items[i]? = some v → J i → (∀ y, y ≠ xi → y ≠ xv → m₁ y = m y) → Fr g env.locals h (fun y => if y = xv then some v else if y = xi then some (.int (i : Int) tk) else m₁ y) →
      wpAny (model prog w) A (execs body env) (fun f s₂ => match f with
        | .ret v => R (.ok (.ret v)) s₂
        | .next => (∃ tk₂, s₂ = { s with heap := h, toks := tk₂ }) ∧ J (i + 1)
        | _ => False) (notedBy (model prog w) A env fun e s' => R (.error e) s') { s with heap := h, toks := tk' })
    (done : ∀ h tk (m₁ : Str → Option Value), (∀ y, y ≠ xi → y ≠ xv → m₁ y = m y) → Fr g env.locals h m₁ → J items.size →
      wpAny (model prog w) A (execs orelse env) (fun f s₃ => R (.ok f) s₃) (notedBy (model prog w) A env fun e s' => R (.error e) s') { s with heap := h, toks := tk }) :
    codeAny (model prog w) A (.forLoop (.Tuple [.Name xi pi, .Name xv pv] x1 pt) (.ref e) body orelse env) R s := by
  refine codeAny_forLoop_any
    (fun k s' => ∃ h' tk m' i old, s' = { s with heap := h', toks := tk } ∧ IsEnum h' e it ((i : Nat) : Int) old ∧ h'.IsListIter it l i ∧ h'.IsList l items ∧ Fr g env.locals h' m' ∧ (∀ y, y ≠ xi → y ≠ xv → m' y = m y) ∧ J i ∧ i ≤ items.size ∧
      k = items.size + 1 - i) ?_ (items.size + 1)
    ⟨s.heap, s.toks, m, 0, .none, rfl, he, hit, hl, F, fun _ _ _ => rfl, h0, Nat.zero_le _, rfl⟩
  rintro k s' ⟨H, tk, m', i, old, rfl, he', hit', hl', F', hm', hJ, hi, rfl⟩
  cases hv : items[i]? with
  | none =>
    have hsz : i = items.size := Nat.le_antisymm hi (by simpa using hv)
    refine wpAny_pyNext_enum_end hh he' hit' hl' hv fun h₁ he₁ => ?_
    refine done h₁ tk m' hm' ⟨F'.ns.extBut he₁ (Ne.symm hiL), fun b o q => he₁ b o (fun z => ?_) (F'.keep b o q), F'.above⟩ (hsz ▸ hJ)
    rw [z, hgi] at q; cases q
  | some v =>
    have hlt : i < items.size := (Array.getElem?_eq_some_iff.mp hv).1
    have heH : e < H.objs.size := Heap.lt_size he'
    have hLH : env.locals < H.objs.size := F'.ns.lt
    obtain ⟨oi, hoi, _⟩ := id hit'
    obtain ⟨ol, hol, _⟩ := id hl'
    have hiH : it < H.objs.size := Heap.lt_size hoi
    have hlH : l < H.objs.size := Heap.lt_size hol
    refine wpAny_pyNext_enum_item he' hit' hl' hv hei fun h₁ heo hit₁ ht₁ hz₁ hk₁ => ?_
    refine wpAny_letOwnedTupleGo_enum heo fun h₂ he₂ hs₂ => ?_
    replace hs₂ : Heap.SameBut e h₁ h₂ := hs₂
    have ht₂ : h₂.IsTuple H.objs.size #[.int i tk, v] := ⟨_, (hs₂.2 _ (Nat.ne_of_gt heH)).trans ht₁, rfl, _, rfl⟩
    have hz₂ : h₂.objs.size = H.objs.size + 1 := hs₂.1.trans hz₁
    refine wpAny_assign_Tuple hh ht₂ rfl rfl fun h₃ hx₃ => ?_
    replace hx₃ : Heap.ExtBut h₂.objs.size h₂ h₃ := hx₃
    have old₃ : ∀ b o, b < H.objs.size → h₂.get? b = some o → h₃.get? b = some o := fun b o hb x => hx₃ b o (by rw [hz₂]; exact Nat.ne_of_lt (Nat.lt_succ_of_lt hb)) x
    have hn₃ : h₃.Ns env.locals m' := (F'.ns.at fun o x => hk₁ _ o (Ne.symm heL) (Ne.symm hiL) x).sameBut hs₂ (Ne.symm heL) |>.at fun o x => old₃ _ o hLH x
    show wpAny _ A (do holding [v] (assign (.Name xi pi) env (.int i tk)); do holding [] (assign (.Name xv pv) env v); pure ()) _ _ _
    refine wpAny_bind (wpAny_holding (wpAny_assign_Name (wpAny_storeName_local hxi hn₃ (fun h₄ hn₄ hs₄ => ?_) hp)))
    replace hs₄ : Heap.SameBut env.locals h₃ h₄ := hs₄
    refine wpAny_bind (wpAny_holding (wpAny_assign_Name (wpAny_storeName_local hxv hn₄ (fun h₅ hn₅ hs₅ => wpAny_pure ?_) hp)))
    replace hs₅ : Heap.SameBut env.locals h₄ h₅ := hs₅
    have up : ∀ b o, b ≠ env.locals → b < H.objs.size → h₂.get? b = some o → h₅.get? b = some o := fun b o hbL hb x =>
      hs₅.extBut b o hbL (hs₄.extBut b o hbL (old₃ b o hb x))
    have F₅ : Fr g env.locals h₅ (fun y => if y = xv then some v else if y = xi then some (.int (i : Int) tk) else m' y) := by
      refine ⟨hn₅, fun b o q => ?_, F'.above⟩
      have hb := F'.keep b o q
      have hbe : b ≠ e := fun z => by rw [z, hge] at q; cases q
      have hbi : b ≠ it := fun z => by rw [z, hgi] at q; cases q
      have hbL : b ≠ env.locals := Nat.ne_of_lt (Nat.lt_of_lt_of_le (Heap.lt_size q) F'.above)
      exact up b o hbL (Heap.lt_size hb) (hs₂.extBut b o hbe (hk₁ b o hbe hbi hb))
    refine wpAny_mono (step i v tk m' _ _ hv hJ hm' F₅) (fun f s₃ h₆ => ?_) fun _ _ x => x
    cases f with
    | ret v => exact h₆
    | brk => exact h₆.elim
    | cont => exact h₆.elim
    | next =>
      obtain ⟨⟨tk₆, rfl⟩, hJ₆⟩ := h₆
      refine ⟨items.size + 1 - (i + 1), by omega, h₅, tk₆, _, i + 1, v, rfl, ?_, ?_, ?_, F₅, fun y h1 h2 => ?_, hJ₆, hlt, rfl⟩
      · have : ((i + 1 : Nat) : Int) = (i : Int) + 1 := by push_cast; rfl
        rw [this]; exact up e _ heL heH he₂
      · exact (hit₁.extBut hs₂.extBut (Ne.symm hei)).at fun o x => up it o hiL hiH x
      · exact ((hl'.at fun o x => hk₁ l o hle hli x).extBut hs₂.extBut hle).at fun o x => up l o hlL hlH x
      · rw [if_neg h2, if_neg h1]; exact hm' y h1 h2

theorem forEnumX {E : Value → Shared → Prop} {Q : Flow → Shared → Prop} {g : Heap} {xi xv : Str} {pi pv pt : Pos} {x1} {body orelse : List Stmt} {e it l : Addr} {items : Array Value} {m : Str → Option Value}
    (hh : A.handled = none) (hxi : env.kindOf xi = some .local) (hxv : env.kindOf xv = some .local)
    (hp : (env.scope.kind == .class || (env.scope.kind == .module && env.locals != env.globals)) = false)
    (hei : e ≠ it) (heL : e ≠ env.locals) (hiL : it ≠ env.locals) (hlL : l ≠ env.locals) (hle : l ≠ e) (hli : l ≠ it) (hge : g.get? e = none) (hgi : g.get? it = none)
    (he : IsEnum s.heap e it 0 .none) (hit : s.heap.IsListIter it l 0) (hl : s.heap.IsList l items) (F : Fr g env.locals s.heap m)
    (J : Nat → Prop) (h0 : J 0)
    (step : ∀ i v tk (m₁ : Str → Option Value) h tk', items[i]? = some v → J i → (∀ y, y ≠ xi → y ≠ xv → m₁ y = m y) → Fr g env.locals h (fun y => if y = xv then some v else if y = xi then some (.int (i : Int) tk) else m₁ y) →
      wpAny (model prog w) A (execs body env) (fun f s₂ => match f with
        | .ret v => Q (.ret v) s₂
        | .next => (∃ tk₂, s₂ = { s with heap := h, toks := tk₂ }) ∧ J (i + 1)
        | _ => False) E { s with heap := h, toks := tk' })
    (done : ∀ h tk (m₁ : Str → Option Value), (∀ y, y ≠ xi → y ≠ xv → m₁ y = m y) → Fr g env.locals h m₁ → J items.size →
      wpAny (model prog w) A (execs orelse env) Q E { s with heap := h, toks := tk })
    (hE : PassesOwn (model prog w) A env E := by passes_own) :
    wpAny (model prog w) A (pyIter (.ref e)) (fun it s₂ => codeAny (model prog w) A (.forLoop (.Tuple [.Name xi pi, .Name xv pv] x1 pt) it body orelse env) (fun r s' => match r with | .ok f => Q f s' | .error e => cameBackBy (model prog w) A env E e s') s₂) E s :=
  wpAny_pyIter_enum he (forEnumS hh hxi hxv hp hei heL hiL hlL hle hli hge hgi he hit hl F J h0
    (fun i v tk m₁ h tk' a b c d => wpAny_passesOwn hE (step i v tk m₁ h tk' a b c d)) fun h tk m₁ a b c => wpAny_passesOwn hE (done h tk m₁ a b c))
end
end Mine
end

section
open PySem PySem.W PyProof.Rows PySem.Calls PySem.Spec
namespace Mine
/-- what is told of an item hangs on its own object and the marks alone -/
def GStab (G : Nat → Heap → Nat → Value → Prop) : Prop :=
  ∀ i h tk h' tk' y, G i h tk y → tk ≤ tk' → (∀ l o, y = .ref l → h.get? l = some o → h'.get? l = some o) → G i h' tk' y

section
variable {prog : Program} {w : World} {A : Around} {R : Result → Shared → Prop} {s : Shared}

theorem compLoopG {elt iter : Expr} {x : Str} {px : Pos} {scope : Scope} {pos : Pos} {I D : Addr} {fp wr : List Addr} {n : Nat} {P : Nat → Value → Prop} {St : Nat → Heap → Prop}
    {cenv : Env} {m : Str → Option Value} (G : Nat → Heap → Nat → Value → Prop) (hG : GStab G) (W : Walks prog w A I fp wr n P St) (hwr : ∀ i h, St i h → ∀ b ∈ wr, h.get? b ≠ none)
    (hx : cenv.kindOf x = some .local) (hp : (cenv.scope.kind == .class || (cenv.scope.kind == .module && cenv.locals != cenv.globals)) = false)
    (hDC : D ≠ cenv.locals) (hDf : D ∉ fp) (hCf : cenv.locals ∉ fp)
    (hst : St 0 s.heap) (hacc : s.heap.PlainList D #[]) (hn : s.heap.Ns cenv.locals m)
    (helt : ∀ i v s₂ m₂, i < n → P i v → s₂.heap.Ns cenv.locals m₂ → m₂ x = some v → (∀ b o, b ≠ cenv.locals → b ∉ wr → b ≠ D → s.heap.get? b = some o → s₂.heap.get? b = some o) → s.toks ≤ s₂.toks →
      wpAny (model prog w) A (eval elt cenv) (fun y s₃ => Keeps s₂ s₃ ∧ G i s₃.heap s₃.toks y ∧ ∀ l, y = .ref l → s₂.heap.get? l = none) (notedBy (model prog w) A cenv fun e s' => R (.error e) s') s₂)
    (hR : ∀ h' tk m' (ys : Array Value), h'.Ns cenv.locals m' → h'.PlainList D ys → ys.size = n →
      (∀ j y, ys[j]? = some y → G j h' tk y ∧ ∀ l, y = .ref l → l ≠ D ∧ l ≠ cenv.locals ∧ l ∉ wr ∧ s.heap.get? l = none) →
      (∀ b o, b ≠ cenv.locals → b ∉ wr → b ≠ D → s.heap.get? b = some o → h'.get? b = some o) → s.toks ≤ tk → R (.ok .next) { s with heap := h', toks := tk })
    (hsz : n ≤ sizeLine) :
    codeAny (model prog w) A (.compLoop (.ListComp elt [⟨.Name x px, iter, [], 0⟩] scope pos) 0 (.ref I) (.ref D) cenv) R s := by
  refine codeAny_compLoop_tests
    (fun k s' => ∃ h' tk m', ∃ ys : Array Value, s' = { s with heap := h', toks := tk } ∧ St ys.size h' ∧ h'.PlainList D ys ∧ h'.Ns cenv.locals m' ∧ ys.size ≤ n ∧ k = n + 1 - ys.size ∧
      (∀ j y, ys[j]? = some y → G j h' tk y ∧ ∀ l, y = .ref l → l ≠ D ∧ l ≠ cenv.locals ∧ l ∉ wr ∧ s.heap.get? l = none) ∧
      (∀ b o, b ≠ cenv.locals → b ∉ wr → b ≠ D → s.heap.get? b = some o → h'.get? b = some o) ∧ s.toks ≤ tk) ?_ (n + 1)
    ⟨s.heap, s.toks, m, #[], rfl, hst, hacc, hn, Nat.zero_le _, rfl, (fun j y e => by simp at e), fun _ _ _ _ _ e => e, Nat.le_refl _⟩
  rintro k s' ⟨H, tk, m', ys, rfl, hst', hacc', hn', hi, rfl, hys, hk, htk⟩
  have hCw : cenv.locals ∉ wr := fun h => hCf (W.sub _ h)
  have hDw : D ∉ wr := fun h => hDf (W.sub _ h)
  by_cases hlt : ys.size < n
  · refine wpAny_with_toks (n := tk) (Nat.le_refl _) (W.item ys.size _ _ _ hlt hst' fun v h₁ tk₁ hPv hst₁ hk₁ htk₁ => ?_)
    refine wpAny_assign_Name (wpAny_storeName_local hx (hn'.at' fun o e => hk₁ _ o hCw e) (fun h₂ hn₂ hs₂ => ?_) hp)
    dsimp only at htk₁
    have up₂ : ∀ b o, b ≠ cenv.locals → b ∉ wr → H.get? b = some o → h₂.get? b = some o := fun b o hbC hbf e => hs₂.extBut b o hbC (hk₁ b o hbf e)
    have hst₂ : St (ys.size + 1) h₂ := W.frame _ _ _ hst₁ fun b hb o e => hs₂.extBut b o (fun h => hCf (h ▸ hb)) e
    refine wpAny_tests_nil ?_
    simp only [if_true]
    refine wpAny_with_toks (n := tk₁ + 1) (Nat.le_refl _) (wpAny_mono (helt ys.size v _ _ hlt hPv hn₂ (by simp) (fun b o hbC hbf hbD e => up₂ b o hbC hbf (hk b o hbC hbf hbD e)) (by show s.toks ≤ tk₁ + 1; omega)) (fun y s₄ h₄ htk₄ => ?_) fun _ _ e _ => e)
    obtain ⟨⟨h₄, tk₄, rfl, hk₄⟩, hGy, hfr⟩ := h₄
    dsimp only at htk₄ hGy hk₄ hfr
    have hacc₄ : h₄.PlainList D ys := hacc'.at fun o e => hk₄ _ o (up₂ D o hDC hDw e)
    have hyref : ∀ l, y = .ref l → l ≠ D ∧ l ≠ cenv.locals ∧ l ∉ wr ∧ s.heap.get? l = none := fun l hl => by
      have f := hfr l hl
      refine ⟨fun z => ?_, fun z => ?_, fun z => hwr _ _ hst₂ l z f, ?_⟩
      · obtain ⟨o, ho⟩ := hacc'
        rw [z, up₂ D _ hDC hDw ho] at f
        cases f
      · obtain ⟨o, _, _, ho, _⟩ := hn₂
        rw [z, ho] at f; cases f
      · cases q : s.heap.get? l with
        | none => rfl
        | some o =>
          by_cases c1 : l = cenv.locals
          · obtain ⟨o, _, _, ho, _⟩ := hn₂
            rw [c1, ho] at f; cases f
          · by_cases c2 : l ∈ wr
            · exact absurd f (hwr _ _ hst₂ l c2)
            · by_cases c3 : l = D
              · obtain ⟨o, ho⟩ := hacc'
                rw [c3, up₂ D _ hDC hDw ho] at f
                cases f
              · rw [up₂ l o c1 c2 (hk l o c1 c2 c3 q)] at f; cases f
    refine wpAny_list_append_plain (hsz := by omega) hacc₄ fun h₅ hl₅ hs₅ => ?_
    have up₅ : ∀ b o, b ≠ D → h₄.get? b = some o → h₅.get? b = some o := fun b o hb e => hs₅.extBut b o hb e
    refine ⟨n + 1 - (ys.size + 1), by omega, h₅, tk₄, _, ys.push y, rfl, ?_, hl₅, (hn₂.keeps hk₄).sameBut hs₅ (Ne.symm hDC), (by rw [Array.size_push]; omega), (by rw [Array.size_push]), ?_, ?_, ?_⟩
    · have := W.frame _ _ h₅ hst₂ fun b hb o e => up₅ b o (fun h => hDf (h ▸ hb)) (hk₄ b o e)
      simpa using this
    · intro j z hj
      rw [Array.getElem?_push] at hj
      split at hj
      · rename_i hjs
        cases hj
        subst hjs
        exact ⟨hG _ _ _ _ _ _ hGy (Nat.le_refl _) fun l o hl e => up₅ l o (hyref l hl).1 e, hyref⟩
      · obtain ⟨g1, g2⟩ := hys j z hj
        exact ⟨hG _ _ _ _ _ _ g1 (by omega) fun l o hl e => up₅ l o (g2 l hl).1 (hk₄ l o (up₂ l o (g2 l hl).2.1 (g2 l hl).2.2.1 e)), g2⟩
    · exact fun b o hbC hbf hbD e => up₅ b o hbD (hk₄ b o (up₂ b o hbC hbf (hk b o hbC hbf hbD e)))
    · omega
  · have hin : ys.size = n := by omega
    refine wpAny_with_toks (n := tk) (Nat.le_refl _) (W.done _ _ _ (hin ▸ hst') fun h₁ tk₁ hk₁ htk₁ => ?_)
    dsimp only at htk₁
    refine hR h₁ tk₁ m' ys (hn'.at' fun o e => hk₁ _ o hCw e) (hacc'.at fun o e => hk₁ _ o hDw e) hin (fun j y hj => ?_) (fun b o hbC hbf hbD e => hk₁ b o hbf (hk b o hbC hbf hbD e)) (by omega)
    obtain ⟨g1, g2⟩ := hys j y hj
    exact ⟨hG _ _ _ _ _ _ g1 htk₁ fun l o hl e => hk₁ l o (g2 l hl).2.2.1 e, g2⟩
end
end Mine
end

section
open PySem PySem.W PyProof.Rows PySem.Calls PySem.Spec
namespace Mine
section
variable {prog : Program} {w : World} {A : Around} {E : Value → Shared → Prop} {s : Shared} {env : Env}

theorem compCoreG {elt iter : Expr} {x : Str} {px : Pos} {scope : Scope} {cl : List (Str × Addr)} {pos : Pos} {s₂ : Shared} {I : Addr} {fp wr : List Addr} {n : Nat} {P : Nat → Value → Prop}
    {St : Nat → Heap → Prop} (G : Nat → Heap → Nat → Value → Prop) (hG : GStab G) (W : Walks prog w A I fp wr n P St) (hwr : ∀ i h, St i h → ∀ b ∈ wr, h.get? b ≠ none) (hsz : n ≤ sizeLine) {RR : Value → Addr → Result → Shared → Prop}
    (hcell : ∀ y ∈ scope.names, y.2 ≠ .cell) (hkind : scope.kind = .function) (hx : scope.names.lookup x = some .local) (hst : St 0 s₂.heap) (hfp : ∀ b ∈ fp, b < s₂.heap.objs.size)
    (helt : ∀ i v s₃ C m₃ E', i < n → P i v → s₂.heap.objs.size ≤ C → s₃.heap.Ns C m₃ → m₃ x = some v → (∀ b o, b ∉ wr → s₂.heap.get? b = some o → s₃.heap.get? b = some o) → s₂.toks ≤ s₃.toks →
      wpAny (model prog w) A (eval elt (compEnvC scope cl C env)) (fun y s₄ => Keeps s₃ s₄ ∧ G i s₄.heap s₄.toks y ∧ ∀ l, y = .ref l → s₃.heap.get? l = none) E' s₃)
    (hRR : ∀ D C h' tk m' (ys : Array Value), s₂.heap.get? D = none → s₂.heap.get? C = none → D ≠ C → h'.Ns C m' → h'.PlainList D ys → ys.size = n →
      (∀ j y, ys[j]? = some y → G j h' tk y ∧ ∀ l, y = .ref l → l ≠ D ∧ l ≠ C ∧ s₂.heap.get? l = none) → (∀ b o, b ∉ wr → s₂.heap.get? b = some o → h'.get? b = some o) → s₂.toks ≤ tk →
      RR (.ref D) C (.ok .next) { s₂ with heap := h', toks := tk }) :
    wpAny (model prog w) A (newList []) (fun acc s₃ => wpAny (model prog w) A (newFunctionEnv scope env.globals cl [] env.qual none .none (some env)) (fun cenv s₄ =>
      codeAny (model prog w) A (.compStart (.ListComp elt [⟨.Name x px, iter, [], 0⟩] scope pos) 0 (.ref I) acc { cenv with scope := relabel scope env }) (RR acc cenv.locals) s₄) E s₃) E s₂ := by
  refine wpAny_newObj_type (wpAny_newFunctionEnv hcell (by intro y hy; simp at hy) (fun h₁ hns₁ hsb₁ => ?_) hkind)
  dsimp only at hns₁ hsb₁ ⊢
  generalize hH2 : s₂.heap.push { cls := .type "list", dict := none, data := .seq ([] : List Value).toArray } = H2 at hns₁ hsb₁ ⊢
  have hC : H2.objs.size = s₂.heap.objs.size + 1 := by rw [← hH2, Heap.size_push]
  have hDC : s₂.heap.objs.size ≠ H2.objs.size := by rw [hC]; exact Nat.ne_of_lt (Nat.lt_succ_self _)
  have hCle : s₂.heap.objs.size ≤ H2.objs.size := by rw [hC]; exact Nat.le_succ _
  have below : ∀ b, b < s₂.heap.objs.size → b ≠ H2.objs.size ∧ b ≠ s₂.heap.objs.size := fun b hb => ⟨by rw [hC]; exact Nat.ne_of_lt (Nat.lt_succ_of_lt hb), Nat.ne_of_lt hb⟩
  have hDf : s₂.heap.objs.size ∉ fp := fun hm => Nat.lt_irrefl _ (hfp _ hm)
  have hCf : H2.objs.size ∉ fp := fun hm => by have := hfp _ hm; rw [hC] at this; exact Nat.lt_irrefl _ (Nat.lt_of_succ_lt this)
  have old : ∀ b o, s₂.heap.get? b = some o → h₁.get? b = some o := fun b o e => hsb₁.extBut b o (below b (Heap.lt_size e)).1 (Heap.get?_push_of_some _ (hH2 ▸ Heap.get?_push_of_some _ e))
  have hacc : h₁.PlainList s₂.heap.objs.size #[] := ⟨_, hsb₁.extBut _ _ hDC (Heap.get?_push_of_some _ (hH2 ▸ Heap.get?_push_size _ rfl))⟩
  have hst₁ : St 0 h₁ := W.frame _ _ _ hst fun b _ o e => old b o e
  have fresh : ∀ a, s₂.heap.objs.size ≤ a → s₂.heap.get? a = none := fun a ha => Heap.get?_none_of_le ha
  have none₁ : ∀ b, h₁.get? b = none → s₂.heap.get? b = none := fun b hb => by
    cases e : s₂.heap.get? b with
    | none => rfl
    | some o => rw [old b o e] at hb; cases hb
  have loop : ∀ s₃ : Shared, s₃ = { s₂ with heap := h₁, toks := s₂.toks + ([] : List (Str × Value)).length } →
      codeAny (model prog w) A (.compLoop (.ListComp elt [⟨.Name x px, iter, [], 0⟩] scope pos) 0 (.ref I) (.ref s₂.heap.objs.size) (compEnvC scope cl H2.objs.size env))
        (RR (.ref s₂.heap.objs.size) H2.objs.size) s₃ := by
    rintro s₃ rfl
    refine compLoopG (hsz := hsz) (cenv := compEnvC scope cl H2.objs.size env) G hG W hwr (lookup_relabel_local hx) (by simp [compEnvC, relabel, hkind]) hDC hDf hCf hst₁ hacc hns₁
      (fun i v s₃ m₃ hi hv hn hm hk htk => helt i v s₃ _ m₃ _ hi hv hCle hn hm (fun b o hbf e => hk b o (below b (Heap.lt_size e)).1 hbf (below b (Heap.lt_size e)).2 (old b o e)) htk) fun h' tk m' ys hn hpl hlen hys hk htk => ?_
    exact hRR _ _ h' tk m' ys (fresh _ (Nat.le_refl _)) (fresh _ (by rw [hC]; exact Nat.le_succ _)) hDC hn hpl hlen (fun j y hj => ⟨(hys j y hj).1, fun l hl => ⟨((hys j y hj).2 l hl).1, ((hys j y hj).2 l hl).2.1, none₁ l ((hys j y hj).2 l hl).2.2.2⟩⟩)
      (fun b o hbf e => hk b o (below b (Heap.lt_size e)).1 hbf (below b (Heap.lt_size e)).2 (old b o e)) htk
  exact codeAny_compStart_list (loop _ rfl) (W.self 0 _ _ _ hst₁ (loop _ rfl))

/-- what is wanted of an element -/
def EltPost (s₃ : Shared) (G : Nat → Heap → Nat → Value → Prop) (i : Nat) (y : Value) (s₄ : Shared) : Prop := Keeps s₃ s₄ ∧ G i s₄.heap s₄.toks y ∧ ∀ l, y = .ref l → s₃.heap.get? l = none
/-- what a comprehension's element gives -/
def Elt (prog : Program) (w : World) (A : Around) (h₀ : Heap) (env : Env) (scope : Scope) (cl : List (Str × Addr)) (x : Str) (elt : Expr) (m : Str → Option Value) (news : List (Addr × Obj)) (s₁ : Shared) (n : Nat) (P : Nat → Value → Prop)
    (G : Nat → Heap → Nat → Value → Prop) : Prop :=
  ∀ i v s₃ C m₃ E', i < n → P i v → s₁.heap.objs.size ≤ C → Fr h₀ env.locals s₃.heap m → News h₀ env.locals s₃.heap news → (∀ b o, s₁.heap.get? b = some o → s₃.heap.get? b = some o) →
    s₃.heap.Ns (compEnvC scope cl C env).locals m₃ → m₃ x = some v → s₁.toks ≤ s₃.toks →
    wpAny (model prog w) A (eval elt (compEnvC scope cl C env)) (EltPost s₃ G i) E' s₃
/-- what its end is told -/
def CompFin (h₀ : Heap) (L : Addr) (m' : Str → Option Value) (news : List (Addr × Obj)) (s₁ : Shared) (n : Nat) (G : Nat → Heap → Nat → Value → Prop) (D : Addr) (h' : Heap) (tk : Nat) (ys : Array Value) : Prop :=
  Fr h₀ L h' m' ∧ News h₀ L h' news ∧ s₁.heap.get? D = none ∧ h'.PlainList D ys ∧ ys.size = n ∧ (∀ j y, ys[j]? = some y → G j h' tk y ∧ ∀ l, y = .ref l → l ≠ D ∧ s₁.heap.get? l = none) ∧ (∀ b o, b ≠ L → s₁.heap.get? b = some o → h'.get? b = some o) ∧ s₁.toks ≤ tk

/-- a source that is walked by an iterator made for it -/
def Src (prog : Program) (w : World) (A : Around) (E : Value → Shared → Prop) (xv : Value) (s₁ : Shared) (n : Nat) (P : Nat → Value → Prop) : Prop :=
  ∀ (Q : Value → Shared → Prop), (∀ I o fp St, I = s₁.heap.objs.size → o.isFreed = false → (∀ i h, St i h → h.get? I ≠ none) → St 0 (s₁.heap.push o) → (∀ b ∈ fp, b < (s₁.heap.push o).objs.size) → Walks prog w A I fp [I] n P St → Q (.ref I) { s₁ with heap := s₁.heap.push o }) →
    wpAny (model prog w) A (pyIter xv) Q E s₁

theorem EltPost.int {s₃ : Shared} {G : Nat → Heap → Nat → Value → Prop} {i : Nat} {v : Int} {t : Tok} {h' : Heap} {tk' : Nat} (k : ∀ b o, s₃.heap.get? b = some o → h'.get? b = some o) (g : G i h' tk' (.int v t)) :
    EltPost s₃ G i (.int v t) { s₃ with heap := h', toks := tk' } := ⟨⟨h', tk', rfl, k⟩, g, fun l e => by cases e⟩
theorem EltPost.ref {s₃ : Shared} {G : Nat → Heap → Nat → Value → Prop} {i : Nat} {l : Addr} {h' : Heap} {tk' : Nat} (k : ∀ b o, s₃.heap.get? b = some o → h'.get? b = some o) (g : G i h' tk' (.ref l)) (f : s₃.heap.get? l = none) :
    EltPost s₃ G i (.ref l) { s₃ with heap := h', toks := tk' } := ⟨⟨h', tk', rfl, k⟩, g, fun l' e => by cases e; exact f⟩
theorem EltPost.val {s₃ : Shared} {G : Nat → Heap → Nat → Value → Prop} {i : Nat} {v : Value} {h' : Heap} {tk' : Nat} (k : ∀ b o, s₃.heap.get? b = some o → h'.get? b = some o) (g : G i h' tk' v) (f : ∀ l, v ≠ .ref l) :
    EltPost s₃ G i v { s₃ with heap := h', toks := tk' } := ⟨⟨h', tk', rfl, k⟩, g, fun l' e => absurd e (f l')⟩
/-- an int, its mark within bounds -/
def GInt (f : Nat → Int) (lo : Nat) (i : Nat) (_h : Heap) (tk : Nat) (y : Value) : Prop := ∃ t, y = .int (f i) t ∧ lo ≤ t ∧ t < tk
theorem GInt.stab (f : Nat → Int) (lo : Nat) : GStab (GInt f lo) := fun _ _ _ _ _ _ ⟨t, e, a, b⟩ le _ => ⟨t, e, a, Nat.lt_of_lt_of_le b le⟩
theorem sumT {h₀ : Heap} {L : Addr} {m : Str → Option Value} {news : List (Addr × Obj)} {l : Addr} {vs : List Value} {ns : List Int} {Q : Value → Shared → Prop} (hh : A.handled = none) (F : Fr h₀ L s.heap m) (N : News h₀ L s.heap news) (hl : s.heap.IsList l vs.toArray) (hi : IntsAre vs ns)
    (h : ∀ h' tk t', Fr h₀ L h' m → News h₀ L h' news → (∀ b o, s.heap.get? b = some o → h'.get? b = some o) → s.toks ≤ tk → Q (.int ns.sum t') { s with heap := h', toks := tk }) :
    wpAny (model prog w) A (call (.builtin "sum") [.ref l]) Q E s := by
  obtain ⟨xs, hx⟩ := hi.allInts.items
  have hn : numsOf vs.toArray.toList = ns := by rw [show vs.toArray.toList = vs from rfl, hi.numsOf]
  rw [hx] at hl hn
  rw [nums_intItems] at hn
  refine wpAny_with_toks (Nat.le_refl _) (sum_intListG hh hl fun h' tk t' hk hle => ?_)
  have := h h' tk t' (F.keeps hk) (N.grown hk) hk hle
  rw [preSum_eq, List.take_of_length_le (by simp), hn]
  exact this
theorem srcList {l : Addr} {items : Array Value} (hh : A.handled = none) (hl : s.heap.IsList l items) : Src prog w A E (.ref l) s items.size fun i v => items[i]? = some v := by
  intro Q k
  obtain ⟨ol, hol, _⟩ := id hl
  have hlt : l < s.heap.objs.size := Heap.lt_size hol
  have hne : l ≠ s.heap.objs.size := Nat.ne_of_lt hlt
  refine wpAny_pyIter_list hl (k _ _ [s.heap.objs.size, l] _ rfl rfl (fun i h st => ?_) ⟨⟨_, Heap.get?_push_size _ rfl, rfl, rfl⟩, hl.push _⟩ (fun b hb => ?_) (Walks.list hh s.heap.objs.size l hne items))
  · obtain ⟨⟨o, ho, _⟩, _⟩ := st
    rw [ho]; intro z; cases z
  · rw [Heap.size_push]
    rcases List.mem_cons.mp hb with rfl | hb
    · exact Nat.lt_succ_self _
    · rw [List.mem_singleton.mp hb]; exact Nat.lt_succ_of_lt hlt
theorem srcRange {r : Addr} {a b c : Int} {t u v : Tok} {n : Nat} (hh : A.handled = none) (hr : IsRange s.heap r a b c t u v) (hsmall : Builtin.Range.small a b c = true) (hn : Builtin.Range.rangeSize a b c = (n : Int)) :
    Src prog w A E (.ref r) s n fun i v => ∃ t, v = .int (a + i * c) t := by
  intro Q k
  refine wpAny_pyIter_range hr hsmall (k _ _ [s.heap.objs.size] _ rfl rfl (fun i h st => ?_) (by show IsRangeIter _ _ _ _ _; rw [hn]; simpa using Heap.get?_push_size _ rfl) (fun b hb => ?_) (Walks.range hh s.heap.objs.size a c n))
  · have : h.get? s.heap.objs.size = _ := st
    rw [this]; intro z; cases z
  · rw [Heap.size_push, List.mem_singleton.mp hb]; exact Nat.lt_succ_self _
end
end Mine
end

section
open PySem PySem.W PyProof.Rows PySem.Calls PySem.Spec
namespace Mine
section
variable {prog : Program} {w : World} {A : Around} {E : Value → Shared → Prop} {env : Env} {h₀ : Heap}

/-- a slice of a list, all kept -/
theorem sliceT {s : Shared} {L : Addr} {m : Str → Option Value} {news : List (Addr × Obj)} {value slice : PySem.Expr} {l : Addr} {items : Array Value} {vl vu vk : Value} {lo hi st : Option Int} {ops : List Value} {Q : Value → Shared → Prop}
    (F : Fr h₀ L s.heap m) (N : News h₀ L s.heap news) (hl : s.heap.IsList l items) (pl : IsPart vl lo) (pu : IsPart vu hi) (pk : IsPart vk st) (h0 : st ≠ some 0) (hsz : items.size ≤ sizeLine)
    (h : ∀ h', Fr h₀ L h' m → News h₀ L h' ((s.heap.objs.size + 1, { cls := .type "list", data := .seq (slicePick items lo hi st) }) :: news) → (∀ b o, s.heap.get? b = some o → h'.get? b = some o) → s.heap.get? (s.heap.objs.size + 1) = none → Q (.ref (s.heap.objs.size + 1)) { s with heap := h' })
    (hs : subscripted slice false (.ref l) (.ref s.heap.objs.size) = operate ops (getItem (.ref l) (.ref s.heap.objs.size)))
    (ht : ∀ r, letTemporaryGo value (.ref l) r = pure ()) :
    wpAny (model prog w) A (subscriptTail value slice (.ref l) (.ref s.heap.objs.size)) Q E { s with heap := s.heap.push { cls := .type "slice", data := .fields #[vl, vu, vk] } } := by
  refine subscriptTail_ops (Heap.IsList.typeIs (s := { s with heap := s.heap.push { cls := .type "slice", data := .fields #[vl, vu, vk] } }) (hl.push _)) list_getitem_lookup
    (wpAny_getItem_list_slice (hl.push _) (Heap.IsSliceOf.new ..) pl pu pk h0 ?_ hsz) hs ht
  have N1 := News.push (F.push { cls := .type "slice", data := .fields #[vl, vu, vk] }) (N.grown fun _ _ e => Heap.get?_push_of_some _ e) { cls := .type "list", data := .seq (slicePick items lo hi st) }
  rw [Heap.size_push] at N1
  show Q (.ref (s.heap.push _).objs.size) _
  rw [Heap.size_push]
  exact h _ ((F.push _).push _) N1 (fun b o e => Heap.get?_push_of_some _ (Heap.get?_push_of_some _ e)) (Heap.get?_none_of_le (Nat.le_succ _))

/-- what a comprehension is fed, and what is wanted of its end -/
def Feed (prog : Program) (w : World) (A : Around) (E : Value → Shared → Prop) (h₀ : Heap) (env : Env) (scope : Scope) (cl : List (Str × Addr)) (x : Str) (elt : Expr) (up : Addr → (Str → Option Value) → (Str → Option Value)) (Q : Value → Shared → Prop) (xv : Value) (s₁ : Shared) : Prop :=
  ∃ m news n P G, Fr h₀ env.locals s₁.heap m ∧ News h₀ env.locals s₁.heap news ∧ Src prog w A E xv s₁ n P ∧ n ≤ sizeLine ∧ GStab G ∧ Elt prog w A h₀ env scope cl x elt m news s₁ n P G ∧
    ∀ D h' tk ys, CompFin h₀ env.locals (up D m) news s₁ n G D h' tk ys → Q (.ref D) { s₁ with heap := h', toks := tk }

theorem Elt.of {scope : Scope} {cl : List (Str × Addr)} {x : Str} {elt : Expr} {s₁ : Shared} {m : Str → Option Value} {news : List (Addr × Obj)} {n : Nat} {P : Nat → Value → Prop} {G : Nat → Heap → Nat → Value → Prop}
    (F₁ : Fr h₀ env.locals s₁.heap m) (N₁ : News h₀ env.locals s₁.heap news)
    (h : ∀ i v s₃ C oC m₃ E', i < n → P i v → Fr h₀ env.locals s₃.heap m → News h₀ env.locals s₃.heap ((C, oC) :: news) → LCg.NsObj oC m₃ → m₃ x = some v → (∀ b o, s₁.heap.get? b = some o → s₃.heap.get? b = some o) → (∀ p ∈ news, p.1 ≠ C) → s₁.toks ≤ s₃.toks →
      wpAny (model prog w) A (eval elt (compEnvC scope cl C env)) (EltPost s₃ G i) E' s₃) : Elt prog w A h₀ env scope cl x elt m news s₁ n P G := by
  intro i v s₃ C m₃ E' hi hP hC F N K hn hm htk
  obtain ⟨oC, hoC, hns⟩ := LCg.ns_obj hn
  have hlt : env.locals < C := Nat.lt_of_lt_of_le F₁.ns.lt hC
  refine h i v s₃ C oC m₃ E' hi hP F (fun p hp => ?_) hns hm K (fun p hp e => ?_) htk
  · rcases List.mem_cons.mp hp with rfl | hp
    · exact ⟨hoC, Nat.ne_of_gt hlt, Heap.get?_none_of_le (Nat.le_of_lt (Nat.lt_of_le_of_lt F₁.above hlt))⟩
    · exact N p hp
  · have := Heap.lt_size (N₁ p hp).1
    rw [e] at this
    exact Nat.lt_irrefl _ (Nat.lt_of_lt_of_le this hC)

theorem Feed.of {scope : Scope} {cl : List (Str × Addr)} {x : Str} {elt : Expr} {up : Addr → (Str → Option Value) → (Str → Option Value)} {Q : Value → Shared → Prop} {xv : Value} {s₁ : Shared} {m : Str → Option Value} {news : List (Addr × Obj)} {n : Nat} {P : Nat → Value → Prop}
    (G : Nat → Heap → Nat → Value → Prop) (hG : GStab G) (F : Fr h₀ env.locals s₁.heap m) (N : News h₀ env.locals s₁.heap news) (src : Src prog w A E xv s₁ n P) (hsz : n ≤ sizeLine)
    (helt : Elt prog w A h₀ env scope cl x elt m news s₁ n P G) (fin : ∀ D h' tk ys, CompFin h₀ env.locals (up D m) news s₁ n G D h' tk ys → Q (.ref D) { s₁ with heap := h', toks := tk }) :
    Feed prog w A E h₀ env scope cl x elt up Q xv s₁ := ⟨m, news, n, P, G, F, N, src, hsz, hG, helt, fin⟩
theorem Feed.ints {scope : Scope} {cl : List (Str × Addr)} {x : Str} {elt : Expr} {up : Addr → (Str → Option Value) → (Str → Option Value)} {Q : Value → Shared → Prop} {xv : Value} {s₁ : Shared} {m : Str → Option Value} {news : List (Addr × Obj)} {n : Nat} {P : Nat → Value → Prop}
    (f : Nat → Int) (F : Fr h₀ env.locals s₁.heap m) (N : News h₀ env.locals s₁.heap news) (src : Src prog w A E xv s₁ n P) (hsz : n ≤ sizeLine)
    (helt : Elt prog w A h₀ env scope cl x elt m news s₁ n P (GInt f s₁.toks)) (fin : ∀ D h' tk ys, CompFin h₀ env.locals (up D m) news s₁ n (GInt f s₁.toks) D h' tk ys → Q (.ref D) { s₁ with heap := h', toks := tk }) :
    Feed prog w A E h₀ env scope cl x elt up Q xv s₁ := Feed.of (GInt f s₁.toks) (GInt.stab _ _) F N src hsz helt fin

theorem compEval {s : Shared} {elt iter : Expr} {x : Str} {px : Pos} {scope : Scope} {cl : List (Str × Addr)} {pos : Pos} {Q : Value → Shared → Prop}
    (hclos : closureFor scope env = pure cl) (hcell : ∀ y ∈ scope.names, y.2 ≠ .cell) (hkind : scope.kind = .function)
    (hnames : ∀ y ∈ scope.names, y.2 = .local → scope.names.lookup y.1 = some .local) (hx : scope.names.lookup x = some .local)
    (h : wpAny (model prog w) A (eval iter env) (Feed prog w A E h₀ env scope cl x elt (fun _ m => m) Q) E s)
    (hs : ∀ x, foldedSetIterable iter env x = pure x) :
    wpAny (model prog w) A (eval (.ListComp elt [⟨.Name x px, iter, [], 0⟩] scope pos) env) Q E s := by
  rw [eval_ListComp]
  refine wpAny_comprehension_free (use := none) rfl hs hclos hkind hnames (wpAny_mono h (fun xv s₁ h₁ => ?_) fun _ _ e => e)
  obtain ⟨m, news, n, P, G, F, N, src, hsz, hG, helt, hQ⟩ := h₁
  refine src _ fun I o fp St hI ho hne hst hfp W => ?_
  subst hI
  have old : ∀ (h' : Heap), (∀ b p, b ∉ [s₁.heap.objs.size] → (s₁.heap.push o).get? b = some p → h'.get? b = some p) → ∀ b p, s₁.heap.get? b = some p → h'.get? b = some p := fun h' k b p e =>
    k b p (fun q => Nat.lt_irrefl _ ((List.mem_singleton.mp q) ▸ Heap.lt_size e)) (Heap.get?_push_of_some _ e)
  have nw : ∀ l, (s₁.heap.push o).get? l = none → s₁.heap.get? l = none := fun l e => by
    cases q : s₁.heap.get? l with
    | none => rfl
    | some p => rw [Heap.get?_push_of_some _ q] at e; cases e
  have hle : s₁.heap.objs.size ≤ (s₁.heap.push o).objs.size := by rw [Heap.size_push]; exact Nat.le_succ _
  refine compCoreG (RR := fun acc C => compPost (model prog w) A E none Q acc C) G hG W (fun i h' st b hb => (List.mem_singleton.mp hb) ▸ hne i h' st) hsz hcell hkind hx hst hfp ?_ ?_
  · intro i v s₃ C m₃ E' hi hP hC hn hm hk htk
    exact helt i v s₃ C m₃ E' hi hP (Nat.le_trans hle hC) (F.keeps (old _ hk)) (N.grown (old _ hk)) (old _ hk) hn hm htk
  · intro D C h' tk m' ys hD hC hDC hn hpl hlen hys hk htk
    refine ⟨m', hn, fun h'' hs'' => hQ D h'' tk ys ?_⟩
    have hk' : ∀ b p, s₁.heap.get? b = some p → h''.get? b = some p := fun b p e => hs''.extBut b p (fun z => by rw [← z, Heap.get?_push_of_some _ e] at hC; cases hC) (old _ hk b p e)
    refine ⟨F.keeps hk', N.grown hk', nw _ hD, hpl.extBut hs''.extBut hDC, hlen, fun j y hj => ?_, fun b p _ e => hk' b p e, htk⟩
    obtain ⟨g1, g2⟩ := hys j y hj
    exact ⟨hG _ _ _ _ _ _ g1 (Nat.le_refl _) fun l p hl e => hs''.extBut l p (g2 l hl).2.1 e, fun l hl => ⟨(g2 l hl).1, nw _ (g2 l hl).2.2⟩⟩

theorem compAssign {s : Shared} {elt iter : Expr} {x y : Str} {px py : Pos} {scope : Scope} {cl : List (Str × Addr)} {pos spos : Pos} {Q : Flow → Shared → Prop}
    (hsw : swapsWith (.ListComp elt [⟨.Name x px, iter, [], 0⟩] scope pos) (some (.Name y py)) spos.line env = pure true)
    (hclos : closureFor scope env = pure cl) (hcell : ∀ z ∈ scope.names, z.2 ≠ .cell) (hkind : scope.kind = .function)
    (hnames : ∀ z ∈ scope.names, z.2 = .local → scope.names.lookup z.1 = some .local) (hx : scope.names.lookup x = some .local)
    (hy : env.kindOf y = some .local) (hp : (env.scope.kind == .class || (env.scope.kind == .module && env.locals != env.globals)) = false)
    (h : wpAny (model prog w) A (eval iter env) (Feed prog w A E h₀ env scope cl x elt (fun D m z => if z = y then some (.ref D) else m z) (fun _ s' => Q .next s')) E s)
    (hs : ∀ x, foldedSetIterable iter env x = pure x) :
    wpAny (model prog w) A (exec (.Assign [.Name y py] (.ListComp elt [⟨.Name x px, iter, [], 0⟩] scope pos) spos) env) Q E s := by
  rw [exec_Assign_Name_used _ _ _ _ hsw]
  refine wpAny_bind (wpAny_standAt (wpAny_bind ?_))
  show wpAny _ A (do let _ ← comprehension (.ListComp elt [⟨.Name x px, iter, [], 0⟩] scope pos) scope env _ (newList []) false (eval iter env) (some (assign (.Name y py) env))) _ _ s
  refine wpAny_bind (wpAny_mono (wpAny_comprehension_free (use := some (assign (.Name y py) env)) (Q := fun _ s' => Q .next s') rfl hs hclos hkind hnames
    (wpAny_mono h (fun xv s₁ h₁ => ?_) fun _ _ e => e)) (fun _ s' hq => wpAny_pure (wpAny_pure hq)) fun _ _ e => e)
  obtain ⟨m, news, n, P, G, F, N, src, hsz, hG, helt, hQ⟩ := h₁
  refine src _ fun I o fp St hI ho hne hst hfp W => ?_
  subst hI
  have old : ∀ (h' : Heap), (∀ b p, b ∉ [s₁.heap.objs.size] → (s₁.heap.push o).get? b = some p → h'.get? b = some p) → ∀ b p, s₁.heap.get? b = some p → h'.get? b = some p := fun h' k b p e =>
    k b p (fun q => Nat.lt_irrefl _ ((List.mem_singleton.mp q) ▸ Heap.lt_size e)) (Heap.get?_push_of_some _ e)
  have nw : ∀ l, (s₁.heap.push o).get? l = none → s₁.heap.get? l = none := fun l e => by
    cases q : s₁.heap.get? l with
    | none => rfl
    | some p => rw [Heap.get?_push_of_some _ q] at e; cases e
  have hle : s₁.heap.objs.size ≤ (s₁.heap.push o).objs.size := by rw [Heap.size_push]; exact Nat.le_succ _
  refine compCoreG (RR := fun acc C => compPost (model prog w) A E (some (assign (.Name y py) env)) (fun _ s' => Q .next s') acc C) G hG W (fun i h' st b hb => (List.mem_singleton.mp hb) ▸ hne i h' st) hsz hcell hkind hx hst hfp ?_ ?_
  · intro i v s₃ C m₃ E' hi hP hC hn hm hk htk
    exact helt i v s₃ C m₃ E' hi hP (Nat.le_trans hle hC) (F.keeps (old _ hk)) (N.grown (old _ hk)) (old _ hk) hn hm htk
  · intro D C h' tk m' ys hD hC hDC hnC hpl hlen hys hk htk
    obtain ⟨oL, _, _, hoL, _⟩ := id F.ns
    have hLC : env.locals ≠ C := fun z => by rw [← z, Heap.get?_push_of_some _ hoL] at hC; cases hC
    have hLD : env.locals ≠ D := fun z => by rw [← z, Heap.get?_push_of_some _ hoL] at hD; cases hD
    have F₁ : Fr h₀ env.locals h' m := F.keeps (old _ hk)
    show wpAny _ A (assign (.Name y py) env (.ref D)) _ _ _
    refine wpAny_assign_Name (wpAny_storeName_local hy F₁.ns (fun h₂ hn₂ hs₂ => ?_) hp)
    refine ⟨m', hnC.sameBut hs₂ (Ne.symm hLC), fun h₃ hs₃ => hQ D h₃ _ ys ?_⟩
    have hk' : ∀ b p, b ≠ env.locals → s₁.heap.get? b = some p → h₃.get? b = some p := fun b p hb e =>
      hs₃.extBut b p (fun z => by rw [← z, Heap.get?_push_of_some _ e] at hC; cases hC) (hs₂.extBut b p hb (old _ hk b p e))
    have F₂ := F₁.set hn₂ hs₂
    refine ⟨⟨hn₂.sameBut hs₃ hLC, fun b p e => ?_, F.above⟩, fun p hp => ⟨hk' _ _ (N p hp).2.1 (N p hp).1, (N p hp).2⟩, nw _ hD, (hpl.extBut hs₂.extBut (Ne.symm hLD)).extBut hs₃.extBut hDC, hlen, fun j z hj => ?_, hk', Nat.le_succ_of_le htk⟩
    · exact hk' b p (Nat.ne_of_lt (Nat.lt_of_lt_of_le (Heap.lt_size e) F.above)) (F.keep b p e)
    · obtain ⟨g1, g2⟩ := hys j z hj
      refine ⟨hG _ _ _ _ _ _ g1 (Nat.le_succ _) fun l p hl e => hs₃.extBut l p (g2 l hl).2.1 (hs₂.extBut l p (fun q => ?_) e), fun l hl => ⟨(g2 l hl).1, nw _ (g2 l hl).2.2⟩⟩
      have := (g2 l hl).2.2
      rw [q, Heap.get?_push_of_some _ hoL] at this; cases this
end
end Mine
end

section
open PySem PySem.W PyProof.Rows PySem.Calls PySem.Spec
namespace Mine
theorem intsAre_list : ∀ {l : List Value} {f : Nat → Int}, (∀ j y, l[j]? = some y → ∃ t, y = Value.int (f j) t) → IntsAre l ((List.range l.length).map f)
  | [], _, _ => .nil
  | v :: r, f, h => by
    obtain ⟨t, rfl⟩ := h 0 v rfl
    rw [List.length_cons, List.range_succ_eq_map, List.map_cons, List.map_map]
    exact .cons _ t (intsAre_list fun j y hj => h (j + 1) y hj)
/-- a list of ints whose marks lie within bounds -/
def MInts (h : Heap) (l : Addr) (ns : List Int) (lo hi : Nat) : Prop := ∃ vs : List Value, h.PlainList l vs.toArray ∧ IntsAre vs ns ∧ ∀ i t, Value.int i t ∈ vs → lo ≤ t ∧ t < hi
theorem MInts.ints {h : Heap} {l : Addr} {ns : List Int} {lo hi : Nat} (x : MInts h l ns lo hi) : IntL h l ns := let ⟨vs, a, b, _⟩ := x; ⟨vs, a.isList, b⟩
theorem MInts.ext {h h' : Heap} {l : Addr} {ns : List Int} {lo hi : Nat} (x : MInts h l ns lo hi) (e : Ext h h') : MInts h' l ns lo hi :=
  let ⟨vs, ⟨n, ho⟩, a, b⟩ := x; ⟨vs, ⟨n, e _ _ ho⟩, a, b⟩
theorem MInts.weaken {h : Heap} {l : Addr} {ns : List Int} {lo hi lo' hi' : Nat} (x : MInts h l ns lo hi) (a : lo' ≤ lo) (b : hi ≤ hi') : MInts h l ns lo' hi' :=
  let ⟨vs, p, q, r⟩ := x; ⟨vs, p, q, fun i t hm => ⟨Nat.le_trans a (r i t hm).1, Nat.lt_of_lt_of_le (r i t hm).2 b⟩⟩
theorem fin_ints {ys : Array Value} {n : Nat} {f : Nat → Int} {lo tk : Nat} {h h₁ : Heap} {D : Addr} (hsz : ys.size = n) (hy : ∀ j y, ys[j]? = some y → GInt f lo j h tk y ∧ ∀ l, y = .ref l → l ≠ D ∧ h₁.get? l = none) :
    IntsAre ys.toList ((List.range n).map f) ∧ ∀ i t, Value.int i t ∈ ys.toList → lo ≤ t ∧ t < tk := by
  constructor
  · have := intsAre_list (l := ys.toList) (f := f) fun j y hj => by
      obtain ⟨⟨t, e, _⟩, _⟩ := hy j y (by simpa using hj)
      exact ⟨t, e⟩
    rwa [Array.length_toList, hsz] at this
  · intro i t hm
    obtain ⟨j, hj⟩ := List.getElem?_of_mem hm
    obtain ⟨⟨t', e, a, b⟩, _⟩ := hy j _ (by simpa using hj)
    cases e
    exact ⟨a, b⟩
theorem fin_mints {ys : Array Value} {n : Nat} {f : Nat → Int} {lo tk : Nat} {h h₁ : Heap} {D : Addr} (pl : h.PlainList D ys) (hsz : ys.size = n) (hy : ∀ j y, ys[j]? = some y → GInt f lo j h tk y ∧ ∀ l, y = .ref l → l ≠ D ∧ h₁.get? l = none) :
    MInts h D ((List.range n).map f) lo tk := by
  obtain ⟨a, b⟩ := fin_ints hsz hy
  exact ⟨ys.toList, by simpa using pl, a, b⟩

theorem execsT {M : Model} {A : Around} {E : Value → Shared → Prop} {s : Shared} {env : Env} {st : Stmt} {rest : List Stmt} {Q : Flow → Shared → Prop}
    (h : wpAny M A (exec st env) (fun f s' => s.toks ≤ s'.toks → match f with | .next => wpAny M A (execs rest env) Q E s' | f => Q f s') E s) : wpAny M A (execs (st :: rest) env) Q E s := by
  refine wpAny_execs_cons (wpAny_mono (wpAny_toks h) (fun f s' p => ?_) fun _ _ p => p.2)
  exact p.2 p.1
/-- what a def of the text does, upon all callers; of the marks too -/
def CtrT (prog : Program) (w : World) (K : Frag) (p : Program) (f : Addr) (args : List Value) (d u : Nat) (Pre : Heap → Nat → Prop) (Post : Heap → Nat → Heap → Nat → Value → Prop) : Prop :=
  ∀ (loose : List Str) (mean : ExcName → Option Value) (mg mb : Str → Option Value) (s : Shared) (E Q : Value → Shared → Prop) (dp un : Nat) (gd : Option (List Code)) (frs : List Env) (base : Heap),
    Below (arnd dp un gd frs) base frs s.heap → K.In s.heap → Top p loose mean mg mb s.heap → dp + d < recursionLimit → un + u < cLine → Pre s.heap s.toks →
    (∀ r h' tk', Ext s.heap h' → Post s.heap s.toks h' tk' r → Q r { s with heap := h', toks := tk' }) →
    wpAny (model prog w) (arnd dp un gd frs) (call (.ref f) args) Q E s
theorem CtrT.use {prog : Program} {w : World} {K : Frag} {p : Program} {f : Addr} {args : List Value} {d u : Nat} {Pre : Heap → Nat → Prop} {Post : Heap → Nat → Heap → Nat → Value → Prop} (C : CtrT prog w K p f args d u Pre Post)
    {loose : List Str} {mean : ExcName → Option Value} {mg mb : Str → Option Value} {s : Shared} {E Q : Value → Shared → Prop} {dp un : Nat} {gd : Option (List Code)} {frs : List Env} {base h₀ : Heap} {L : Addr} {m : Str → Option Value} {env : Env} {news : List (Addr × Obj)}
    (B : Below (arnd dp un gd frs) base frs h₀) (F : Fr h₀ L s.heap m) (N : News h₀ L s.heap news) (X : K.In h₀) (T : Top p loose mean mg mb h₀)
    (hf : env.frame = some L) (hk : env.scope.kind = .function) (hd : dp + 1 + d < recursionLimit) (hu : un + 3 + u < cLine) (pre : Pre s.heap s.toks)
    (ret : ∀ r h' tk', Fr h₀ L h' m → News h₀ L h' news → Ext s.heap h' → s.toks ≤ tk' → Post s.heap s.toks h' tk' r → Q r { s with heap := h', toks := tk' }) :
    wpAny (model prog w) (arnd (dp + 1) (un + 3) gd (env :: frs)) (call (.ref f) args) Q E s :=
  wpAny_with_toks (Nat.le_refl _) (C loose mean mg mb s _ _ (dp + 1) (un + 3) gd (env :: frs) base (below_in B F hf hk) (X.keeps F.keep) (T.keeps F.keep) hd hu pre
    fun r h' tk' k po le => ret r h' tk' (F.keeps k) (N.grown k) k le po)
theorem Ctr.toT {prog : Program} {w : World} {K : Frag} {p : Program} {f : Addr} {args : List Value} {d u : Nat} {Pre : Heap → Prop} {Post : Heap → Heap → Value → Prop} (C : Ctr prog w K p f args d u Pre Post) :
    CtrT prog w K p f args d u (fun h _ => Pre h) (fun h _ h' _ r => Post h h' r) := fun loose mean mg mb s E Q dp un gd frs base B X T hd hu pre ret => C loose mean mg mb s E Q dp un gd frs base B X T hd hu pre fun r h' tk' k po => ret r h' tk' k po
end Mine
end

section
open PySem PySem.W PyProof.Rows PySem.Calls
namespace Mine

theorem isList_pick {h₀ h : Heap} {L l : Addr} {news : List (Addr × Obj)} {items : Array Value} {n : Nat} (N : News h₀ L h news) (hm : (l, ({ cls := .type "list", data := .seq items n } : Obj)) ∈ news) : h.IsList l items.toList.toArray :=
  ⟨_, (N _ hm).1, rfl, n, by simp⟩
theorem kinds_bound (n : Nat) : 2 ≤ 2 + (n : Int).fmod 2 ∧ 2 + (n : Int).fmod 2 ≤ 3 := by
  have h1 := PySem.W.fmod_lo (n : Int) (n := 2) (by decide)
  have h2 := PySem.W.fmod_hi (n : Int) (n := 2) (by decide)
  omega
theorem kinds_ne (n : Nat) : 2 + (n : Int).fmod 2 ≠ 0 := by have := kinds_bound n; omega
/-- the row's sign at a place, less 1000 and the sum -/
def rowM (ns : List Int) (i : Nat) : Int := ((pickNums ns (some (i : Int)) none (some 8)).sum + [0, 0, 1, 0, 0, 0, 1, 1].getD i 0).fmod (2 + (ns.length : Int).fmod 2)
theorem rowM_bound (ns : List Int) (i : Nat) : 0 ≤ rowM ns i ∧ rowM ns i < 3 := by
  have h := kinds_bound ns.length
  have a := PySem.W.fmod_lo ((pickNums ns (some (i : Int)) none (some 8)).sum + [0, 0, 1, 0, 0, 0, 1, 1].getD i 0) (n := 2 + (ns.length : Int).fmod 2) (by omega)
  have b := PySem.W.fmod_hi ((pickNums ns (some (i : Int)) none (some 8)).sum + [0, 0, 1, 0, 0, 0, 1, 1].getD i 0) (n := 2 + (ns.length : Int).fmod 2) (by omega)
  unfold rowM
  omega

set_option maxRecDepth 100000 in
set_option maxHeartbeats 4000000 in
theorem c_row {w : World} {row : Addr} {ns : List Int} : CtrT PySem.Challenge.rw_rw0006_01.row.prog w (hd.heap_39 w.params) hd.view_39 61 [.ref row] 9 80 (fun h tk => (IntL h row ns ∧ ns.length ≤ 63) ∧ 1 ≤ tk) (fun h tk h' tk' r => ∃ l, r = .ref l ∧ h.get? l = none ∧ MInts h' l ((List.range 8).map fun i => 1000 + ns.sum + rowM ns i) 1 tk') := by
  k_with_none
  w_top off
  k_fill
  intro loose mean mg mb s E Q dp un gd frs base B X T hd hu pre ret
  obtain ⟨g, gens, drawn, toks, os⟩ := s
  dsimp only at B X T pre ret
  k_dflt (refine' enterRC (args := ⟨_, []⟩) (binds := [(Str.ofString "script", .ref row)]) ?k1 ?k2 ?k3 ?k6 ?k7 ?k8 ?k9 ?kB ?kD ?c2 ?c3 ?c4 ?_; (case k1 => k_asm); (case k2 => k_asm); (case k3 => k_asm); (case k6 => k_is); (case k7 => k_is); (case k8 => omega); (case k9 => exact BindsTo.of_eq rfl); (case kB => exact rfl); (case kD => decide +kernel); (case c2 => exact rfl); (case c3 => exact rfl); (case c4 => exact rfl); k_whole)
  intro h₁ tk₁ cells htk₁ F N Y
  have KX := X
  dsimp only at *
  k_cells Y
  (try simp only [List.cons_append, List.nil_append] at N)
  k_unmd
  k_fold
  obtain ⟨⟨⟨vs, hl, hi⟩, hlen⟩, htk0⟩ := pre
  (k_with "exec Return some" => refine Hold.out ?_)
  (k_with "execs cons" => refine execsT ?_)
  k_steps
  k_with_none
  refine Hold.hold ?_
  refine wpAny_Return_some ?_
  refine compEval (h₀ := g) (by with_unfolding_all rfl) (by decide) (by with_unfolding_all rfl) (by decide) (by with_unfolding_all rfl) (wpAny_with_toks (Nat.le_refl _) ?_) (by intro _; with_unfolding_all rfl)
  k_steps
  rename News _ _ _ _ => N1
  rename Fr _ _ _ _ => F1
  rename IsRange _ _ _ _ _ _ _ _ => R1
  refine Feed.ints (n := 8) (fun i => 1000 + ns.sum + rowM ns i) F1 N1 (srcRange rfl R1 (small_one (by decide) (by decide) (by decide) (by decide)) (by rw [rangeSize_nat]; rfl)) (by decide) ?_ ?_
  · refine Elt.of F1 N1 ?_
    intro i v s₃ C oC m₃ E' hi8 hP F3 N3 hns hm K3 hCo htk
    obtain ⟨t, rfl⟩ := hP
    rw [show (0 : Int) + (i : Int) * 1 = (i : Int) by omega] at hm
    obtain ⟨g3, gens3, drawn3, toks3, os3⟩ := s₃
    dsimp only at F3 N3 K3 htk ⊢
    clear F1 N1
    k_unmd
    k_fold
    (k_with "call builtin:sum" => k_dflt ((rename News _ _ _ _ => N9); (rename Fr _ _ _ _ => F9); refine sumT rfl F9 N9 (isList_pick N9 (.head _)) (IntsAre.pick hi _ _ _) ?_; clear N9 F9; intro h9 tk9 t9 F9 N9 K93 le93; (try dsimp only at le93)))
    (k_with "call builtin:sum" => k_dflt ((rename News _ _ _ _ => N9); (rename Fr _ _ _ _ => F9); refine sumT rfl F9 N9 (stays_list (fun b o e => F9.keep b o e) hl) hi ?_; clear N9 F9; intro h9 tk9 t9 F9 N9 K91 le91; (try dsimp only at le91)))
    (k_with "subscriptTail Name Slice ref ref" => k_dflt ((rename News _ _ _ _ => N9); (rename Fr _ _ _ _ => F9); refine sliceT (lo := some (i : Int)) (hi := none) (st := some 8) F9 N9 (stays_list (fun b o e => F9.keep b o e) hl) (.int _ _) .none (.int _ _) (by decide) (by simp; have := hi.length; unfold sizeLine; omega) ?_ (by with_unfolding_all rfl) (by intro _; with_unfolding_all rfl); clear N9 F9; intro h9 F9 N9 K92 fr92))
    (k_with "binaryOp Mod int int" => refine mod_int' (kinds_ne _) ?_)
    k_steps
    k_with_none
    exact EltPost.int (fun b o e => K93 b o (K92 b o (K91 b o e))) ⟨_, rfl, by (try dsimp only); omega, Nat.lt_succ_self _⟩
  · intro D h' tk ys hfin
    obtain ⟨F2, N2, fr, pl, sz, hy, K2, le⟩ := hfin
    intro hle2
    (try dsimp only)
    have hM := fin_mints pl sz hy
    refine ret _ _ _ (fun b o e => F2.keep b o e) ⟨_, rfl, (by
      cases q : g.get? D with
      | none => rfl
      | some o => rw [F1.keep _ _ q] at fr; cases fr), hM.weaken ?_ (Nat.le_refl _)⟩
    clear hM hy
    dsimp only at *
    omega
end Mine
end

section
open PySem PySem.W PyProof.Rows PySem.Calls PySem.Spec
namespace Mine
theorem noneBooked_K {K : Frag} {h : Heap} (X : K.In h) (T : h.NoLimit) (e : nsIn K cStatics sharingNotToldKey = some none) : NoneBooked h := by
  obtain ⟨mc, G, _⟩ := T
  refine ⟨mc, G, ?_⟩
  obtain ⟨o, es, ep, ho, hd, _, hf⟩ := G
  unfold nsIn at e
  split at e
  · rename_i c d es' n' sl q
    have := X _ _ q
    rw [ho] at this
    cases this
    cases hd
    split at e
    · cases e
    · rename_i he
      rw [← hf]
      unfold nsFind findBy
      rw [← Array.find?_toList, he]
      rfl
  · cases e
section
variable {M : Model} {A : Around} {E : Value → Shared → Prop} {s : Shared}
/-- two ints by identity, whose marks are told -/
theorem is_int {p q : Int} {t u : Tok} {Q : Value → Shared → Prop} (h0 : t ≠ 0) (h1 : u ≠ 0) (hb : NoneBooked s.heap) (heq : t = u → p = q) (hf : p ≠ q → Q (.bool false) s) (ht : p = q → ∀ b, Q (.bool b) s) :
    wpAny M A (compareOp .Is (.int p t) (.int q u)) Q E s := by
  have h01 : (t == 0 || u == 0) = false := by simp [h0, h1]
  show wpAny M A (do return .bool (← isSame (.int p t) (.int q u))) Q E s
  refine wpAny_bind ?_
  show wpAny M A (if (p == q && smallInt p) = true then isSame.cachedInt t u else isSame.created (p == q) t u) _ E s
  refine wpAny_ite ?_
  split
  · rename_i h
    have hpq : p = q := by simpa using (Bool.and_eq_true_iff.mp h).1
    show wpAny M A (if (t == 0 || u == 0) = true then unsupported "internal:private-int-reached-python" else do rule "is.small-int-cache"; pure true) _ E s
    rw [h01, if_neg Bool.false_ne_true]
    exact wpAny_bind (wpAny_rule (wpAny_pure (wpAny_pure (ht hpq _))))
  · unfold isSame.created
    refine wpAny_ite ?_
    split
    · rename_i h; rw [h01] at h; exact absurd h Bool.false_ne_true
    refine wpAny_ite ?_
    split
    · rename_i h
      exact wpAny_pure (wpAny_pure (ht (heq (by simpa using h)) _))
    refine wpAny_ite ?_
    split
    · rename_i h
      have hpq : p ≠ q := by simpa using h
      exact wpAny_pure (wpAny_pure (hf hpq))
    rename_i h
    have hpq : p = q := by simpa using h
    refine wpAny_bind (wpAny_sharingNotTold_none hb ?_)
    first | rw [if_neg Bool.false_ne_true] | simp only [Bool.false_eq_true, if_false]
    refine wpAny_bind (wpAny_sharingNotTold_none hb ?_)
    first | rw [if_neg Bool.false_ne_true] | simp only [Bool.false_eq_true, if_false]
    exact wpAny_bind (wpAny_rule (wpAny_bind (wpAny_askSetting (wpAny_pure (wpAny_pure (ht hpq _))))))
end
end Mine
end

section
open PySem PySem.W PyProof.Rows PySem.Calls
namespace Mine
local macro_rules | `(tactic| walk_at "pad of mine") => `(tactic| fail)

set_option maxRecDepth 100000 in
set_option maxHeartbeats 4000000 in
theorem c_index {w : World} {row : Addr} {ns : List Int} {b : Int} {tb : Tok}
  (loose : List Str) (mean : ExcName → Option Value) (mg mb : Str → Option Value) (s : Shared) (E Q : Value → Shared → Prop) (dp un : Nat) (gd : Option (List Code)) (frs : List Env) (base : Heap)
  (B : Below (arnd dp un gd frs) base frs s.heap) (X : (hd.heap_39 w.params).In s.heap) (T : Top hd.view_39 loose mean mg mb s.heap) (hd : dp + 9 < recursionLimit) (hu : un + 80 < cLine)
  {vs : List Value} (pre : (s.heap.IsList row vs.toArray ∧ IntsAre vs ns) ∧ ns.length ≤ 100) (mk : tb ≠ 0 ∧ ∀ i t, Value.int i t ∈ vs → t ≠ 0 ∧ (t = tb → i = b))
  (ret : ∀ (i : Nat) t h' tk', Ext s.heap h' → ns[i]? = some b → (∀ j, j < i → ns[j]? ≠ some b) → Q (.int (i : Int) t) { s with heap := h', toks := tk' })
  (exc : ∀ e h' tk', RaisedN base frs e (.type "ValueError") [] h' → s.heap.UpToSlots h' → b ∉ ns → E (.ref e) { s with heap := h', toks := tk' }) :
  wpAny (model PySem.Challenge.rw_rw0006_01.row.prog w) (arnd dp un gd frs) (call (.ref 56) [.ref row, .int b tb]) Q E s := by
  k_with_none
  w_top off
  revert X
  k_fill
  intro X
  obtain ⟨g, gens, drawn, toks, os⟩ := s
  dsimp only at B X T pre ret exc
  k_dflt (refine' enterR (args := ⟨_, []⟩) (binds := [(Str.ofString "a", .ref row),(Str.ofString "b", .int b tb)]) ?k1 ?k2 ?k3 ?k6 ?k7 ?k8 ?k9 ?kB ?c2 ?c3 ?c4 ?c5 ?_; (case k1 => k_asm); (case k2 => k_asm); (case k3 => k_asm); (case k6 => k_is); (case k7 => k_is); (case k8 => omega); (case k9 => exact BindsTo.of_eq rfl); (case c5 => decide); (case kB => exact locs rfl); (case c2 => exact rfl); (case c3 => exact rfl); (case c4 => exact rfl); k_whole)
  intro h₁ F
  have N : News g g.objs.size h₁ [] := News.nil
  have KX := X
  dsimp only at *
  k_unmd
  k_fold
  obtain ⟨hl, hi⟩ := pre.1
  have NB : NoneBooked g := noneBooked_K X T.nolimit (by k_dflt k_is)
  have hlen := pre.2
  (k_with "exec For" => refine Hold.out ?_)
  k_steps
  k_with_none
  refine Hold.hold ?_
  have hl1 : h₁.IsList row vs.toArray := stays_list (fun b o e => F.keep b o e) hl
  refine wpAny_For ?_ (by intro _; rfl)
  (k_with "call type:enumerate" => (refine enum_rows F hl1 ?_; intro h2 e1 e2 e3 F2 K2 n1 n2 n3 _ _))
  (k_with "pyIter ref" => refine Hold.out ?_)
  k_steps
  k_with_none
  refine Hold.hold ?_
  dsimp only at n1 n2 n3 F2 e1 e2 e3 K2 ⊢
  have hrow : row < g.objs.size := by obtain ⟨o, ho, _⟩ := hl; exact Heap.lt_size ho
  have hL1 : g.objs.size < h₁.objs.size := F.ns.lt
  refine forEnumX (g := g) rfl rfl rfl rfl n1 (Nat.ne_of_gt (Nat.lt_succ_of_lt hL1)) (Nat.ne_of_gt hL1) (Nat.ne_of_lt hrow) n2 n3 (Heap.get?_none_of_le (Nat.le_succ_of_le (Nat.le_of_lt hL1))) (Heap.get?_none_of_le (Nat.le_of_lt hL1)) e1 e2 e3 F2 (fun i => ∀ j, j < i → ns[j]? ≠ some b) (fun j h => absurd h (Nat.not_lt_zero _)) ?_ ?_
  · intro i v tk m₁ h tk' hv hJ hm F3
    have hv' : vs[i]? = some v := by simpa using hv
    have hi3 : i < ns.length := by
      have h1 := hi.length
      have h2 := (List.getElem?_eq_some_iff.mp hv').1
      omega
    obtain ⟨t3, hv3⟩ := hi.get i ns[i] (by simp [hi3])
    have hv4 : v = .int ns[i] t3 := by rw [hv3] at hv'; exact (Option.some.inj hv').symm
    subst hv4
    have F4 := F3.known0 (n := (Str.ofString "b")) (w := .int b tb) (by (try dsimp only); (repeat rw [if_neg (by decide)]); rw [hm _ (by decide) (by decide)]; rfl)
    clear F3
    have N4 : News g g.objs.size h [] := News.nil
    have NB4 : NoneBooked h := let ⟨mc, a, c⟩ := NB; ⟨mc, a.keeps F4.keep, c⟩
    have hmem := mk.2 _ _ (List.mem_of_getElem? hv3)
    k_unmd
    k_fold
    (k_with "compareOp Is int int" => k_dflt (refine is_int hmem.1 mk.1 NB4 hmem.2 ?_ ?_))
    k_steps
    k_with_none
    all_goals first
      | (exfalso; contradiction)
      | exact ret i tk h _ (fun b o e => F4.keep b o e) (by rw [List.getElem?_eq_getElem hi3]; exact congrArg some (by assumption)) hJ
      | (rename _ < i + 1 => hj
         rcases Nat.lt_succ_iff_lt_or_eq.mp hj with hj | hj
         · exact hJ _ hj
         · rw [hj, List.getElem?_eq_getElem hi3]
           intro z
           exact absurd (Option.some.inj z) (by assumption))
  · intro h tk m₁ hm F3 hJ
    have N4 : News g g.objs.size h [] := News.nil
    k_unmd
    (try k_fold)
    k_steps
    rename Heap.NewExc _ _ _ _ => hx
    refine leave_newK (A := arnd dp un gd frs) B hx F3 N4 fun h' R U => exc _ _ _ R U fun hm => ?_
    obtain ⟨j, hj⟩ := List.getElem?_of_mem hm
    refine hJ j ?_ hj
    have h1 := (List.getElem?_eq_some_iff.mp hj).1
    have h2 := hi.length
    simp only [List.size_toArray]
    omega
end Mine
end

section
open PySem PySem.W PyProof.Rows PySem.Calls PySem.Spec
namespace Mine
/-- the frames' dicts -/
abbrev dictsOf (l : List Env) : List Addr := l.filterMap (·.frame)
/-- kept but for the frames' dicts, and those in what they hold -/
def KeptBut (as : List Addr) (h h' : Heap) : Prop := (∀ b o, h.get? b = some o → b ∉ as → h'.get? b = some o) ∧ h.UpToSlots h'
theorem Ext.keptBut {as : List Addr} {h h' : Heap} (x : Ext h h') : KeptBut as h h' := ⟨fun b o e _ => x b o e, Heap.UpToSlots.of_keeps x⟩
theorem KeptBut.trans {as as' : List Addr} {a b c : Heap} (x : KeptBut as a b) (y : KeptBut as' b c) (h : ∀ d o, a.get? d = some o → d ∈ as' → d ∈ as) : KeptBut as a c :=
  ⟨fun d o e n => y.1 d o (x.1 d o e n) fun m => n (h d o e m), x.2.trans y.2⟩
theorem base_hide {A : Around} {base g : Heap} {frs : List Env} (B : Below A base frs g) : base.StaysIn (hideAll g (dictsOf frs)) := fun b o e =>
  hideAll_get _ (B.stays b o e) fun m => by rw [(B.frames.mem m).1] at e; cases e
theorem fr_hide {g h : Heap} {L : Addr} {m : Str → Option Value} (F : Fr g L h m) (as : List Addr) : Fr (hideAll g as) L h m :=
  ⟨F.ns, fun b o e => F.keep b o (of_hideAll _ e), by rw [hideAll_size]; exact F.above⟩
theorem below_hide {base g h : Heap} {L : Addr} {m : Str → Option Value} {env : Env} {dp un : Nat} {gd : Option (List Code)} {frs : List Env} (B : Below (arnd dp un gd frs) base frs g) (F : Fr g L h m)
    (hf : env.frame = some L) (hk : env.scope.kind = .function) : Below (arnd (dp + 1) (un + 3) gd (env :: frs)) (hideAll h (dictsOf (env :: frs))) (env :: frs) h :=
  have B' := below_in (env := env) B F hf hk
  ⟨B'.stack, fun b o e => of_hideAll _ e, funFrames_hide B'.frames fun e he a ha => List.mem_filterMap.mpr ⟨e, he, ha⟩⟩

section
variable {prog : Program} {w : World} {E : Value → Shared → Prop} {s' : Shared} {base g h : Heap} {L a e : Addr} {m : Str → Option Value} {name : Str} {scope : Scope} {cd : Value} {cl : List (Str × Addr)}
  {b₀ : Stmt} {suite : List Stmt} {pos np : Pos} {rest : List ExceptHandler} {Q : Flow → Shared → Prop} {K : Frag} {p : Program} {loose : List Str} {mean : ExcName → Option Value} {mg mb : Str → Option Value} {dp un : Nat} {gd : Option (List Code)} {frs : List Env}

/-- a ValueError out of a callee, caught in any def's frame -/
theorem caughtV (B : Below (arnd dp un gd frs) base frs g) (X : K.In base) (T : Top p loose mean mg mb base) (F : Fr g L h m)
    (R : RaisedN (hideAll h (dictsOf (envX name scope L a cd cl :: frs))) (envX name scope L a cd cl :: frs) e (.type "ValueError") [] s'.heap) (U : h.UpToSlots s'.heap)
    (en : nsIn K mainGlobals ("ValueError" : Str) = some none) (hk : scope.kind = .function) (hx : (envX name scope L a cd cl).kindOf ("ValueError" : Str) = some .globalImplicit)
    (k : ∀ h'', (∀ b o, h.get? b = some o → b ∉ dictsOf (envX name scope L a cd cl :: frs) → h''.get? b = some o) → h.UpToSlots h'' → Fr (hideAll g (dictsOf frs)) L h'' m →
      wpAny (model prog w) ((arnd (dp + 1) (un + 3) gd (envX name scope L a cd cl :: frs)).mark (some (.ref e))) (execs (b₀ :: suite) (envX name scope L a cd cl)) Q E { s' with heap := h'' })
    (hE : PassesOwnAt (model prog w) ((arnd (dp + 1) (un + 3) gd (envX name scope L a cd cl :: frs)).mark (some (.ref e))) (arnd (dp + 1) (un + 3) gd (envX name scope L a cd cl :: frs)) (envX name scope L a cd cl) E) :
    wpAny (model prog w) (arnd (dp + 1) (un + 3) gd (envX name scope L a cd cl :: frs)) (noteFrame (.ref e) (envX name scope L a cd cl))
      (fun _ s₂ => wpAny (model prog w) (arnd (dp + 1) (un + 3) gd (envX name scope L a cd cl :: frs)) (setFlight (.ref e) none) (fun _ s₃ =>
        wpAny (model prog w) (arnd (dp + 1) (un + 3) gd (envX name scope L a cd cl :: frs)) (handleBy (.ref e) (envX name scope L a cd cl) (.ExceptHandler (some (.Name ("ValueError" : Str) np)) none (b₀ :: suite) pos :: rest)) Q E s₃) E s₂) E s' := by
  obtain ⟨B₁, a0, hB, _, hfl⟩ := R
  have st : ∀ {h₂ : Heap}, Heap.FlyingW B₁ (envX name scope L a cd cl :: frs) e (.type "ValueError") a0 h₂ → ∀ b o, h.get? b = some o → b ∉ dictsOf (envX name scope L a cd cl :: frs) → h₂.get? b = some o :=
    fun x b o e1 n => x.1 b o (hB b o (hideAll_get _ e1 n))
  have FH := fr_hide F (dictsOf frs)
  have stH : ∀ {h₂ : Heap}, Heap.FlyingW B₁ (envX name scope L a cd cl :: frs) e (.type "ValueError") a0 h₂ → (hideAll g (dictsOf frs)).StaysIn h₂ := fun x b o e1 => by
    refine st x b o (FH.keep b o e1) fun mm => ?_
    rcases List.mem_cons.mp mm with z | z
    · have hlt := Heap.lt_size e1
      have := FH.above
      rw [z] at hlt
      exact Nat.lt_irrefl _ (Nat.lt_of_lt_of_le hlt this)
    · rw [hideAll_none _ z] at e1; cases e1
  refine wpAny_looks_onW rfl rfl hfl fun h₄ hheld₄ hsm₄ => ?_
  refine wpAny_landsW hheld₄ fun h₅ hheld hsm₅' => ?_
  have hsm₅ := (U.trans hsm₄).trans hsm₅'
  have F₅ := FH.of_stays (stH hheld) hsm₅
  have bs := base_hide B
  obtain ⟨ob, hob, hobc⟩ := hheld.there
  refine wpAny_handleBy_builtin (X := "ValueError") (T := "ValueError") (b := true) PySem.F.isExc_ValueError PySem.F.notTuple_ValueError (by rw [isSubtype_type]; kernel_rfl)
    (nameX_B F₅ (X.keeps bs) (topRead_of (T.keeps bs)) en PyProof.Rows.Boot.«ValueError» (by decide) ⟨rfl, ⟨ob, hob, hobc⟩, ?_⟩ hk hx)
  refine lands_againW hheld fun h₆ hfl₆ hsm₆ => ?_
  have F₆ := FH.of_stays (stH hfl₆) (hsm₅.trans hsm₆)
  exact wpAny_passesOwnAt hE (k h₆ (st hfl₆) (hsm₅.trans hsm₆) F₆)
end
end Mine
end

section
open PySem PySem.W PyProof.Rows PySem.Calls
namespace Mine
local macro_rules | `(tactic| walk_at "eval ListComp") => `(tactic| k_extra "eval ListComp")
local macro_rules | `(tactic| walk_at "exec Return some") => `(tactic| k_extra "exec Return some")
local macro_rules | `(tactic| walk_at "exec Try") => `(tactic| k_extra "exec Try")
local macro_rules | `(tactic| walk_at "subscriptTail") => `(tactic| k_extra "subscriptTail")
local macro_rules | `(tactic| walk_at "subscriptTail Name UnaryOp ref int") => `(tactic| k_extra "subscriptTail Name UnaryOp ref int")
local macro_rules | `(tactic| walk_at "subscriptTail Name Slice ref ref") => `(tactic| k_extra "subscriptTail Name Slice ref ref")
local macro_rules | `(tactic| walk_at "subscriptTail Name Name ref int") => `(tactic| k_extra "subscriptTail Name Name ref int")
local macro_rules | `(tactic| walk_at "subscriptTail Name BinOp ref int") => `(tactic| k_extra "subscriptTail Name BinOp ref int")
local macro_rules | `(tactic| walk_at "call ref") => `(tactic| k_extra "call ref")
local macro_rules | `(tactic| walk_at "call builtin:sum") => `(tactic| k_extra "call builtin:sum")
local macro_rules | `(tactic| walk_at "call builtin:list.append") => `(tactic| k_extra "call builtin:list.append")
local macro_rules | `(tactic| walk_at "exec While") => `(tactic| k_extra "exec While")
local macro_rules | `(tactic| walk_at "exec While Compare cons nil") => `(tactic| k_extra "exec While Compare cons nil")
local macro_rules | `(tactic| walk_at "exec For") => `(tactic| k_extra "exec For")
local macro_rules | `(tactic| walk_at "exec Assign cons ListComp") => `(tactic| k_extra "exec Assign cons ListComp")
local macro_rules | `(tactic| walk_at "compareOp Eq ref ref") => `(tactic| k_extra "compareOp Eq ref ref")
local macro_rules | `(tactic| walk_at "compareOp NotEq ref ref") => `(tactic| k_extra "compareOp NotEq ref ref")
local macro_rules | `(tactic| walk_at "exec For Name Call cons nil") => `(tactic| k_extra "exec For Name Call cons nil")
local macro_rules | `(tactic| walk_at "exec For Name Name cons nil") => `(tactic| k_extra "exec For Name Name cons nil")
local macro_rules | `(tactic| walk_at "binaryOp Mod int int") => `(tactic| k_extra "binaryOp Mod int int")
local macro_rules | `(tactic| walk_at "subscriptTail Name Call ref int") => `(tactic| k_extra "subscriptTail Name Call ref int")
theorem tabF_length (ns : List Int) : (tabF ns).length = ns.length := by simp [tabF]
theorem tabF_get (ns : List Int) {q : Nat} (h0 : q ≠ 0) (h : q ≤ ns.length) : (tabF ns).getD ((q : Int) - 1).toNat 0 = (bd ns q : Int) := by
  have e : ((q : Int) - 1).toNat = q - 1 := by omega
  rw [e, List.getD_eq_getElem?_getD]
  unfold tabF
  rw [List.getElem?_map, List.getElem?_range (by omega)]
  simp only [Option.map_some, Option.getD_some]
  rw [show q - 1 + 1 = q by omega]
section
variable {prog : Program} {w : World} {A : Around} {E : Value → Shared → Prop} {s : Shared}
/-- the last item -/
theorem item_last {value slice : PySem.Expr} {l : Addr} {vs : List Value} {ls : List Int} {v : Int} {u : Tok} {Q : Value → Shared → Prop} (hl : s.heap.IsList l vs.toArray) (hi : IntsAre vs ls) (hne : ls ≠ []) (hv : ls[ls.length - 1]? = some v) (hfit : ls.length ≤ 1000)
    (hs : subscripted slice false (.ref l) (.int (-1) u) = operate [.ref l, .int (-1) u] (getItem (.ref l) (.int (-1) u))) (h : ∀ t, Q (.int v t) s) :
    wpAny (model prog w) A (subscriptTail value slice (.ref l) (.int (-1) u)) Q E s := by
  have hlen := hi.length
  have hpos : 0 < ls.length := List.length_pos_iff.mpr hne
  obtain ⟨t, ht⟩ := hi.get _ _ hv
  exact tail_any hl.typeIs slot_list_getitem.lookup (wpAny_getItem_list_neg hl (by decide) (by simp; omega) (by decide) (by
    rw [show ((-1 : Int) + (vs.toArray.size : Int)).toNat = ls.length - 1 by simp; omega]
    simpa using ht) (h t)) hs
end
section
variable {prog : Program} {w : World} {A : Around} {E : Value → Shared → Prop} {s : Shared}
/-- an item as it lies -/
theorem item_val {value slice : PySem.Expr} {l : Addr} {vs : List Value} {k : Nat} {v : Value} {u : Tok} {Q : Value → Shared → Prop} (hl : s.heap.IsList l vs.toArray) (hx : vs[k]? = some v) (hfit : k < 2 ^ 62)
    (hs : subscripted slice false (.ref l) (.int (k : Int) u) = operate [.ref l, .int (k : Int) u] (getItem (.ref l) (.int (k : Int) u))) (h : Q v s) :
    wpAny (model prog w) A (subscriptTail value slice (.ref l) (.int (k : Int) u)) Q E s :=
  tail_any hl.typeIs slot_list_getitem.lookup (wpAny_getItem_list hl (by omega) (by omega) (by simpa using hx) h) hs
end
/-- the signs at the laps -/
def GRow (vs : List Value) (laps : List Nat) (i : Nat) (_h : Heap) (_tk : Nat) (y : Value) : Prop := ∃ k, laps[i]? = some k ∧ vs[k]? = some y
theorem GRow.stab (vs : List Value) (laps : List Nat) : GStab (GRow vs laps) := fun _ _ _ _ _ _ x _ _ => x
theorem GRow.ints {vs : List Value} {ns : List Int} {laps : List Nat} (hi : IntsAre vs ns) {ys : List Value} (hl : ys.length = laps.length) (h : ∀ (j : Nat) y, ys[j]? = some y → ∃ k, laps[j]? = some k ∧ vs[k]? = some y) :
    IntsAre ys (laps.map fun k => ns.getD k 0) := by
  induction laps generalizing ys with
  | nil => rw [List.eq_nil_of_length_eq_zero hl]; exact .nil
  | cons k r ih =>
    cases ys with
    | nil => simp at hl
    | cons y ys =>
      obtain ⟨k', hk, hy⟩ := h 0 y rfl
      simp at hk
      subst hk
      have hlt : k < ns.length := by have := (List.getElem?_eq_some_iff.mp hy).1; have := hi.length; omega
      obtain ⟨t, ht⟩ := hi.get k ns[k] (by simp [hlt])
      rw [ht] at hy
      cases hy
      rw [List.map_cons, List.getD_eq_getElem?_getD, List.getElem?_eq_getElem hlt]
      refine .cons _ t (ih (by simpa using hl) fun j y hj => ?_)
      have := h (j + 1) y (by simpa using hj)
      simpa using this
theorem laps_cast (ns : List Int) (size : Nat) : List.map (fun a : Int => a) (List.filter (fun a : Int => decide (a < (ns.length : Int))) (List.map (fun k : Nat => (k : Int)) (chainL ns size))) = (lapsL ns size).map (fun k : Nat => (k : Int)) := by
  unfold lapsL
  rw [List.map_id', List.filter_map]
  congr 1
  apply List.filter_congr
  intro k _
  simp
theorem lapsL_lt {ns : List Int} {size k : Nat} (h : k ∈ lapsL ns size) : k < ns.length := by simpa using (List.mem_filter.mp h).2
theorem lapsL_length (ns : List Int) (size : Nat) : (lapsL ns size).length ≤ size + 1 := Nat.le_trans (List.length_filter_le _ _) (chainL_length ns size).1
theorem laps_hit {ns : List Int} {size i : Nat} {c : Int} (h : ((lapsL ns size).map fun k => ns.getD k 0)[i]? = some c) : ((lapsL ns size).map fun k => ns[k]?)[i]? = some (some c) := by
  rw [List.getElem?_map] at h ⊢
  cases hk : (lapsL ns size)[i]? with
  | none => rw [hk] at h; cases h
  | some k =>
    rw [hk] at h
    have hlt : k < ns.length := lapsL_lt (List.mem_of_getElem? hk)
    simp only [Option.map_some, Option.some.injEq, List.getD_eq_getElem?_getD, List.getElem?_eq_getElem hlt, Option.getD_some] at h ⊢
    exact h
theorem laps_miss {ns : List Int} {size i : Nat} {c : Int} (h : ∀ j, j < i → ((lapsL ns size).map fun k => ns.getD k 0)[j]? ≠ some c) : ∀ j, j < i → ((lapsL ns size).map fun k => ns[k]?)[j]? ≠ some (some c) := fun j hj e => h j hj (by
  rw [List.getElem?_map] at e ⊢
  cases hk : (lapsL ns size)[j]? with
  | none => rw [hk] at e; cases e
  | some k =>
    rw [hk] at e
    simp only [Option.map_some, Option.some.injEq, List.getD_eq_getElem?_getD] at e ⊢
    rw [e]; rfl)
theorem laps_none {ns : List Int} {size : Nat} {c : Int} (h : c ∉ (lapsL ns size).map fun k => ns.getD k 0) : ∀ k ∈ lapsL ns size, ns[k]? ≠ some c := fun k hk e => h (List.mem_map.mpr ⟨k, hk, by rw [List.getD_eq_getElem?_getD, e]; rfl⟩)
def LapJ (ns : List Int) (size : Nat) (D cA : Addr) (oC : Obj) (m₀ : Str → Option Value) (q : Nat) (m : Str → Option Value) (nx : List (Addr × Obj)) : Prop :=
  m = m₀ ∧ ∃ n vals ls, nx = [(D, W.listOf (vals : List Value).toArray n), (cA, oC)] ∧ IntsAre vals ls ∧ LapW ns size ls q
set_option maxRecDepth 100000 in
set_option maxHeartbeats 4000000 in
theorem c_after {w : World} {row table : Addr} {ns : List Int} {vs : List Value} {size : Nat} {sign : Int} {tz tg : Tok}
  (loose : List Str) (mean : ExcName → Option Value) (mg mb : Str → Option Value) (s : Shared) (E Q : Value → Shared → Prop) (dp un : Nat) (gd : Option (List Code)) (frs : List Env) (base : Heap)
  (B : Below (arnd dp un gd frs) base frs s.heap) (XB : (hd.heap_39 w.params).In base) (TB : Top hd.view_39 loose mean mg mb base) (hd : dp + 19 < recursionLimit) (hu : un + 180 < cLine)
  (pre : (s.heap.IsList row vs.toArray ∧ IntsAre vs ns) ∧ ns.length = 8) (hT : IntL s.heap table (tabF ns)) (hsize : size ≤ 8)
  (mk : tg ≠ 0 ∧ ∀ i t, Value.int i t ∈ vs → t ≠ 0 ∧ (t = tg → i = sign))
  (ret : ∀ t h' tk', KeptBut (dictsOf frs) s.heap h' → Q (.int (aft ns size sign) t) { s with heap := h', toks := tk' }) :
  wpAny (model PySem.Challenge.rw_rw0006_01.row.prog w) (arnd dp un gd frs) (call (.ref 92) [.ref row, .ref table, .int (size : Int) tz, .int sign tg]) Q E s := by
  k_with_none
  w_top off
  have X := XB.keeps B.stays
  have T := TB.keeps B.stays
  revert X
  k_fill
  intro X
  obtain ⟨g, gens, drawn, toks, os⟩ := s
  dsimp only at B X T pre ret hT
  k_dflt (refine' enterRC (args := ⟨_, []⟩) (binds := [(Str.ofString "row", .ref row), (Str.ofString "table", .ref table), ((Str.ofString "size"), .int (size : Int) tz), ((Str.ofString "sign"), .int sign tg)]) ?k1 ?k2 ?k3 ?k6 ?k7 ?k8 ?k9 ?kB ?kD ?c2 ?c3 ?c4 ?_; (case k1 => k_asm); (case k2 => k_asm); (case k3 => k_asm); (case k6 => k_is); (case k7 => k_is); (case k8 => omega); (case k9 => exact BindsTo.of_eq rfl); (case kB => exact rfl); (case kD => decide +kernel); (case c2 => exact rfl); (case c3 => exact rfl); (case c4 => exact rfl); k_whole)
  intro h₁ tk₁ cells htk₁ F N Y
  have KX := X
  dsimp only at *
  k_cells Y
  (try simp only [List.cons_append, List.nil_append] at N)
  k_unmd
  k_fold
  obtain ⟨⟨hl, hi⟩, hlen⟩ := pre
  obtain ⟨us, hl2, hi2⟩ := hT
  have hTl := tabF_length ns
  (k_with "exec While Compare cons nil" => refine Hold.out ?_)
  k_steps
  k_with_none
  refine Hold.hold ?_
  rename News _ _ _ _ => N1
  rename Fr _ _ _ _ => F1
  refine whileG (LapJ ns size _ _ _ _) F1 N1 ⟨rfl, 0, [.int (size : Int) tz], [(size : Int)], rfl, .cons _ _ .nil, LapW.start ns size⟩ ?_
  intro q m₁ nx h₂ tk₂ F2 N2 hJ
  obtain ⟨rfl, en, vals, ls, rfl, hI, hW⟩ := hJ
  have hlast := hW.last
  have hle := hW.le
  have hln := hW.len
  clear F1 N1
  (k_with "subscriptTail Name UnaryOp ref int" => k_dflt (refine item_last (News.isList (by assumption) (.head _)) hI hlast.1 hlast.2 (by omega) (by with_unfolding_all rfl) ?_))
  k_unmd
  k_fold
  (k_with "exec Assign cons ListComp" => refine Hold.out ?_)
  k_steps
  k_with_none
  · rename News _ _ _ _ => N3
    rename Fr _ _ _ _ => F3
    rename (0 < (q : Int)) => hq
    rw [tabF_get ns (by omega) (by omega), List.push_toArray] at N3
    exact WEnd.intro F3 N3 (by have := bd_le ns q; omega) ⟨rfl, _, _, _, rfl, hI.append (.cons _ _ .nil), hW.step (by omega)⟩
  · refine Hold.hold ?_
    rename (¬0 < (q : Int)) => hq
    have hq0 : q = 0 := by omega
    subst hq0
    have hls := hW.done
    (k_with "exec Assign cons ListComp" => (k_here; (with_reducible apply Assign_ListComp_DCn); (case hsw => with_unfolding_all rfl); (case hL => with_unfolding_all rfl); (case hh => with_unfolding_all rfl); (case hclos => with_unfolding_all rfl); (case hcell => decide); (case hkind => with_unfolding_all rfl); (case hnames => decide); (case hx => with_unfolding_all rfl); (case hy => with_unfolding_all rfl); (case hp => with_unfolding_all rfl); (case hs => intro _; with_unfolding_all rfl); (case' h => with_reducible refine wpAny_compPack ?_)))
    (k_with "exec Try" => refine Hold.out ?_)
    k_steps
    k_with_none
    all_goals (try k_data)
    refine Hold.hold ?_
    rename News _ _ _ _ => N4
    rename Fr _ _ _ _ => F4
    rename IntsAre _ (List.map _ (List.filter _ ls)) => I4
    refine wpAny_Try_except ?_
    (k_with "eval ListComp" => refine Hold.out ?_)
    k_unmd
    k_fold
    k_steps
    k_with_none
    refine Hold.hold ?_
    refine compEval (h₀ := g) (by with_unfolding_all rfl) (by decide) (by with_unfolding_all rfl) (by decide) (by with_unfolding_all rfl) ?_ (by intro _; with_unfolding_all rfl)
    k_steps
    have I5 := I4
    rw [hls, laps_cast] at I5
    have hn5 := I5.length
    simp only [List.length_map] at hn5
    rename Fr _ _ _ _ => F5
    rename News _ _ _ _ => N5
    refine Feed.of (GRow vs (lapsL ns size)) (GRow.stab _ _) F5 N5 (srcList rfl (News.isList N5 (.head _))) (by unfold sizeLine; have := lapsL_length ns size; simp only [List.size_toArray]; omega) ?_ ?_
    · refine Elt.of F5 N5 ?_
      intro i v s₃ C oC m₃ E' hin hP F6 N6 hns hm K6 hCo htk
      simp only [List.size_toArray, hn5] at hin
      obtain ⟨t, ht⟩ := I5.get i ((lapsL ns size)[i] : Int) (by simp [hin])
      have hv : v = .int ((lapsL ns size)[i] : Int) t := by
        have hP' := hP
        rw [List.getElem?_toArray, ht] at hP'
        exact (Option.some.inj hP').symm
      subst hv
      have hk8 : (lapsL ns size)[i] < ns.length := lapsL_lt (List.getElem_mem hin)
      obtain ⟨t2, ht2⟩ := hi.get _ (ns[(lapsL ns size)[i]]) (List.getElem?_eq_getElem hk8)
      obtain ⟨g3, gens3, drawn3, toks3, os3⟩ := s₃
      dsimp only at F6 N6 K6 htk ⊢
      have hl6 : g3.IsList row vs.toArray := stays_list (fun b o e => F6.keep b o e) hl
      (k_with "subscriptTail Name Name ref int" => k_dflt (refine item_val hl6 ht2 (by omega) (by with_unfolding_all rfl) ?_))
      k_unmd
      k_fold
      k_steps
      k_with_none
      exact EltPost.val (fun b o e => e) ⟨_, by simp [hin], ht2⟩ (fun l e => by cases e)
    · intro D h' tk ys hfin
      obtain ⟨F6, N6, fr, pl, sz, hy, K6, le⟩ := hfin
      have hyv : ∀ (j : Nat) y, ys.toList[j]? = some y → ∃ k, (lapsL ns size)[j]? = some k ∧ vs[k]? = some y := fun j y hj => (hy j y (by simpa using hj)).1
      have hys : ys.toList.length = (lapsL ns size).length := by
        rw [Array.length_toList, sz, List.size_toArray, hn5]
      have hIy := GRow.ints hi hys hyv
      have hlL := lapsL_length ns size
      (k_with "call ref" => refine Hold.out ?_)
      k_steps
      k_with_none
      refine Hold.hold ?_
      refine c_index (vs := ys.toList) loose mean mg mb _ _ _ (dp + 1) (un + 3) gd _ _ (below_hide B F6 rfl rfl) (X.keeps F6.keep) (T.keeps F6.keep) (by omega) (by omega) ⟨⟨by simpa using pl.isList, hIy⟩, by simp only [List.length_map]; omega⟩ ⟨mk.1, fun i t hm => mk.2 i t ?_⟩ ?_ ?_
      · obtain ⟨j, hj⟩ := List.getElem?_of_mem hm
        obtain ⟨k, _, hk⟩ := hyv j _ hj
        exact List.mem_of_getElem? hk
      · intro i t h2 tk2 hE2 hi1 hi2
        obtain ⟨k, hk, haft⟩ := aft_hit (laps_hit hi1) (laps_miss hi2)
        have F7 := F6.keeps hE2
        have N7 := N6.grown hE2
        obtain ⟨t3, ht3⟩ := I5.get i (k : Int) (by rw [List.getElem?_map, hk]; rfl)
        have hl7 := News.isList N7 (.head _)
        refine item_val (k := i) hl7 ht3 (by have := (List.getElem?_eq_some_iff.mp hk).1; omega) (by with_unfolding_all rfl) ?_
        k_steps
        exact (congrArg (fun z => Q (Value.int z _) _) haft).mp (ret _ _ _ (Ext.keptBut fun b o e => F7.keep b o e))
      · intro e h2 tk2 R U hno
        k_unfold
        (try dsimp only)
        refine caughtV B XB TB F6 R U (by k_dflt k_is) rfl rfl ?_ (by passes_own)
        intro h3 hK hU F8
        k_unmd
        (try k_fold)
        k_steps
        have h0 : aft ns size sign = 0 := aft_miss (laps_none hno)
        refine (congrArg (fun z => Q (Value.int z _) _) h0).mp (ret _ _ _ ⟨fun b o e n => hK b o (F6.keep b o e) fun hm => ?_, (Heap.UpToSlots.of_keeps F6.keep).trans hU⟩)
        rcases List.mem_cons.mp hm with z | z
        · have := Heap.lt_size e
          rw [z] at this
          exact Nat.lt_irrefl _ this
        · exact n z
end Mine
end

section
open PySem PySem.W PyProof.Rows PySem.Calls
namespace Mine
/-- the law's own def, out of the row's term -/
def lawParts : List Stmt × Scope := match PySem.Challenge.rw_rw0006_01.row.prog.main.body.getLast? with
  | some (.FunctionDef (body := b) (scope := sc) ..) => (b, sc)
  | _ => ([], { kind := .function, names := [], isGenerator := false, isCoroutine := false })
def lawBody : List Stmt := lawParts.1
def lawScope : Scope := lawParts.2
def lawSt (n : Nat) : Stmt := lawBody.getD n (.Pass ⟨0, 0, 0, 0⟩)
def lawEnv (L : Addr) : Env := envOfC (Str.ofString "law") lawScope L 97 (.ref 96)
end Mine
end

section
open PySem PySem.W PyProof.Rows PySem.Calls PySem.Spec
namespace Mine
/-- a list of the ledger -/
def ImmL (NX : List (Addr × Obj)) (l : Addr) (vs : List Value) : Prop := ∃ n, (l, ({ cls := .type "list", data := .seq vs.toArray n } : Obj)) ∈ NX
/-- a list of ints of the ledger -/
def ImmI (NX : List (Addr × Obj)) (l : Addr) (ns : List Int) (lo hi : Nat) : Prop := ∃ vs, ImmL NX l vs ∧ IntsAre vs ns ∧ ∀ i t, Value.int i t ∈ vs → lo ≤ t ∧ t < hi
/-- a cell of the ledger -/
def ImmC (NX : List (Addr × Obj)) (c : Addr) (v : Option Value) : Prop := ∃ o, (c, o) ∈ NX ∧ o.data = .cell v
section
variable {NX NX' : List (Addr × Obj)} {g h : Heap} {L l c : Addr} {vs : List Value} {ns : List Int} {lo hi : Nat} {v v' : Option Value}
theorem ImmL.mono (x : ImmL NX l vs) (k : ∀ p ∈ NX, p ∈ NX') : ImmL NX' l vs := let ⟨n, m⟩ := x; ⟨n, k _ m⟩
theorem ImmI.mono (x : ImmI NX l ns lo hi) (k : ∀ p ∈ NX, p ∈ NX') : ImmI NX' l ns lo hi := let ⟨vs, a, b⟩ := x; ⟨vs, a.mono k, b⟩
theorem ImmC.mono (x : ImmC NX c v) (k : ∀ p ∈ NX, p ∈ NX') : ImmC NX' c v := let ⟨o, m, d⟩ := x; ⟨o, k _ m, d⟩
theorem ImmL.isList (x : ImmL NX l vs) (N : News g L h NX) : h.IsList l vs.toArray := let ⟨_, m⟩ := x; ⟨_, (N _ m).1, rfl, _, rfl⟩
theorem ImmL.plain (x : ImmL NX l vs) (N : News g L h NX) : h.PlainList l vs.toArray := let ⟨n, m⟩ := x; ⟨n, (N _ m).1⟩
theorem ImmI.intL (x : ImmI NX l ns lo hi) (N : News g L h NX) : IntL h l ns := let ⟨vs, a, b, _⟩ := x; ⟨vs, a.isList N, b⟩
theorem ImmI.weaken {lo' hi' : Nat} (x : ImmI NX l ns lo hi) (a : lo' ≤ lo) (b : hi ≤ hi') : ImmI NX l ns lo' hi' :=
  let ⟨vs, p, q, r⟩ := x; ⟨vs, p, q, fun i t hm => ⟨Nat.le_trans a (r i t hm).1, Nat.lt_of_lt_of_le (r i t hm).2 b⟩⟩
theorem ImmL.ne_cell (x : ImmL NX l vs) (y : ImmC NX c v) (N : News g L h NX) : l ≠ c := fun z => by
  obtain ⟨n, m⟩ := x
  obtain ⟨o, m', d⟩ := y
  have h1 := (N _ m).1
  have h2 := (N _ m').1
  dsimp only at h1 h2
  rw [z, h2] at h1
  cases h1
  cases d
theorem ImmC.ne_cell (x : ImmC NX l v') (y : ImmC NX c v) (hn : l ≠ c) : l ≠ c := hn
theorem ImmL.but (x : ImmL NX l vs) (hn : l ≠ c) (k : ∀ p ∈ NX, p.1 ≠ c → p ∈ NX') : ImmL NX' l vs := let ⟨n, m⟩ := x; ⟨n, k _ m hn⟩
theorem ImmI.but (x : ImmI NX l ns lo hi) (hn : l ≠ c) (k : ∀ p ∈ NX, p.1 ≠ c → p ∈ NX') : ImmI NX' l ns lo hi := let ⟨vs, a, b⟩ := x; ⟨vs, a.but hn k, b⟩
theorem ImmC.but (x : ImmC NX l v) (hn : l ≠ c) (k : ∀ p ∈ NX, p.1 ≠ c → p ∈ NX') : ImmC NX' l v := let ⟨o, m, d⟩ := x; ⟨o, k _ m hn, d⟩
theorem ImmL.head {n : Nat} : ImmL ((l, ({ cls := .type "list", data := .seq vs.toArray n } : Obj)) :: NX) l vs := ⟨n, .head _⟩
theorem hdN {o : Obj} {a : Addr} (N : News g L h NX) (m : (a, o) ∈ NX) : News g L h ((a, o) :: NX) := fun p hp => by
  rcases List.mem_cons.mp hp with rfl | hp
  · exact N _ m
  · exact N _ hp
theorem subN (N : News g L h NX) (k : ∀ p ∈ NX', p ∈ NX) : News g L h NX' := fun p hp => N p (k p hp)
/-- a new object, met in the heap -/
theorem addN {o : Obj} {a : Addr} (N : News g L h NX) (F : Fr g L h m) (e : h.get? a = some o) (hL : a ≠ L) (hg : g.get? a = none) : News g L h ((a, o) :: NX) := fun p hp => by
  rcases List.mem_cons.mp hp with rfl | hp
  · exact ⟨e, hL, hg⟩
  · exact N _ hp
end
section
variable {prog : Program} {w : World} {A : Around} {E : Value → Shared → Prop} {s : Shared} {h₀ : Heap} {L : Addr} {m : Str → Option Value} {NX : List (Addr × Obj)} {M : Model}

/-- a cell is written -/
theorem storeCell {name qn : Str} {scope : Scope} {a c : Addr} {cd v : Value} {v₀ : Option Value} {cl : List (Str × Addr)} {Q : Unit → Shared → Prop}
    (F : Fr h₀ L s.heap m) (N : News h₀ L s.heap NX) (hc : cl.lookup name = some c) (hm : ImmC NX c v₀)
    (h : ∀ h' NX', Fr h₀ L h' m → News h₀ L h' NX' → (∀ p ∈ NX, p.1 ≠ c → p ∈ NX') → ImmC NX' c (some v) → (∀ p ∈ NX', p.1 = c ∨ p ∈ NX) → Q () { s with heap := h' })
    (hk : scope.kind = .function := by rfl) (hx : (envX qn scope L a cd cl).kindOf name = some .cell := by rfl) : wpAny M A (storeName (envX qn scope L a cd cl) name v) Q E s := by
  obtain ⟨o, hmem, hd⟩ := hm
  have h1 := N _ hmem
  dsimp only at h1
  refine wpAny_storeName_cell hk hx hc ⟨o, h1.1, hd⟩ fun h' hv hs => ?_
  obtain ⟨o', ho', hd'⟩ := hv
  refine h h' ((c, o') :: NX.filter fun p => p.1 != c) ⟨F.ns.sameBut hs (Ne.symm h1.2.1), fun b ob e => (hs.2 b (fun q => ?_)).trans (F.keep b ob e), F.above⟩ (fun p hp => ?_) (fun p hp hn => ?_) ⟨o', .head _, hd'⟩ fun p hp => ?_
  · rw [q, h1.2.2] at e; cases e
  · rcases List.mem_cons.mp hp with rfl | hp
    · exact ⟨ho', h1.2⟩
    · obtain ⟨a, b⟩ := List.mem_filter.mp hp
      have := N p a
      exact ⟨(hs.2 _ (by simpa using b)).trans this.1, this.2⟩
  · exact .tail _ (List.mem_filter.mpr ⟨hp, by simpa using hn⟩)
  · rcases List.mem_cons.mp hp with rfl | hp
    · exact .inl rfl
    · exact .inr (List.mem_filter.mp hp).1

/-- a list grows by an item -/
theorem appendT {l : Addr} {vs : List Value} {x : Value} {Q : Value → Shared → Prop} (F : Fr h₀ L s.heap m) (N : News h₀ L s.heap NX) (hl : ImmL NX l vs) (hsz : vs.length ≤ 1000)
    (h : ∀ h' NX', Fr h₀ L h' m → News h₀ L h' NX' → (∀ p ∈ NX, p.1 ≠ l → p ∈ NX') → ImmL NX' l (vs ++ [x]) → (∀ p ∈ NX', p.1 = l ∨ p ∈ NX) → Q .none { s with heap := h' }) :
    wpAny (model prog w) A (call (.builtin "list.append") [.ref l, x]) Q E s := by
  obtain ⟨n, hmem⟩ := hl
  have h1 := N _ hmem
  dsimp only at h1
  refine wpAny_list_append_plain ⟨n, h1.1⟩ (fun h' hl' hs => ?_) (by unfold sizeLine; simp only [List.size_toArray]; omega)
  obtain ⟨n', ho'⟩ := hl'
  refine h h' ((l, { cls := .type "list", data := .seq (vs ++ [x]).toArray n' }) :: NX.filter fun p => p.1 != l) ⟨F.ns.sameBut hs (Ne.symm h1.2.1), fun b ob e => (hs.2 b (fun q => ?_)).trans (F.keep b ob e), F.above⟩ (fun p hp => ?_) (fun p hp hn => ?_) ⟨n', ?_⟩ fun p hp => ?_
  · rw [q, h1.2.2] at e; cases e
  · rcases List.mem_cons.mp hp with rfl | hp
    · exact ⟨by simpa using ho', h1.2⟩
    · obtain ⟨a, b⟩ := List.mem_filter.mp hp
      have := N p a
      exact ⟨(hs.2 _ (by simpa using b)).trans this.1, this.2⟩
  · exact .tail _ (List.mem_filter.mpr ⟨hp, by simpa using hn⟩)
  · exact .head _
  · rcases List.mem_cons.mp hp with rfl | hp
    · exact .inl rfl
    · exact .inr (List.mem_filter.mp hp).1

/-- items that are objects of their own, taken into the ledger -/
theorem collect {g : Heap} {h : Heap} {P : Nat → Addr → Obj → Prop} {n : Nat} (H : ∀ j, j < n → ∃ a o, P j a o ∧ h.get? a = some o ∧ a ≠ L ∧ g.get? a = none) (N : News g L h NX) :
    ∃ OX, News g L h OX ∧ (∀ p ∈ NX, p ∈ OX) ∧ ∀ j, j < n → ∃ a o, P j a o ∧ (a, o) ∈ OX := by
  induction n with
  | zero => exact ⟨NX, N, fun _ h => h, fun j h => absurd h (Nat.not_lt_zero _)⟩
  | succ n ih =>
    obtain ⟨OX, N1, k1, m1⟩ := ih fun j hj => H j (Nat.lt_succ_of_lt hj)
    obtain ⟨a, o, hP, e, hL, hg⟩ := H n (Nat.lt_succ_self n)
    refine ⟨(a, o) :: OX, fun p hp => ?_, fun p hp => .tail _ (k1 p hp), fun j hj => ?_⟩
    · rcases List.mem_cons.mp hp with rfl | hp
      · exact ⟨e, hL, hg⟩
      · exact N1 p hp
    · rcases Nat.lt_succ_iff_lt_or_eq.mp hj with h1 | rfl
      · obtain ⟨a', o', x, y⟩ := m1 j h1
        exact ⟨a', o', x, .tail _ y⟩
      · exact ⟨a, o, hP, .head _⟩
/-- what CompFin's list is to the ledger -/
theorem CompFin.ledger {m' : Str → Option Value} {n : Nat} {G : Nat → Heap → Nat → Value → Prop} {s₁ : Shared} {D : Addr} {h' : Heap} {tk : Nat} {ys : Array Value} (f : CompFin h₀ L m' NX s₁ n G D h' tk ys) (hL : s₁.heap.get? L ≠ none) (hk : ∀ b o, h₀.get? b = some o → s₁.heap.get? b = some o) :
    ∃ NX', News h₀ L h' NX' ∧ (∀ p ∈ NX, p ∈ NX') ∧ ImmL NX' D ys.toList ∧ ∀ p ∈ NX', p.1 = D ∨ p ∈ NX := by
  obtain ⟨F, N, fr, ⟨n', e⟩, _⟩ := f
  refine ⟨(D, { cls := .type "list", data := .seq ys n' }) :: NX, fun p hp => ?_, fun p hp => .tail _ hp, ⟨n', ?_⟩, fun p hp => ?_⟩
  · rcases List.mem_cons.mp hp with rfl | hp
    · refine ⟨e, fun z => hL (z ▸ fr), ?_⟩
      cases q : h₀.get? D with
      | none => rfl
      | some o => rw [hk _ _ q] at fr; cases fr
    · exact N p hp
  · simp
  · rcases List.mem_cons.mp hp with rfl | hp
    · exact .inl rfl
    · exact .inr hp
theorem fr_here (F : Fr h₀ L s.heap m) : s.heap.get? L ≠ none := by
  obtain ⟨o, _, _, ho, _⟩ := F.ns
  rw [ho]; intro z; cases z
end
end Mine
end

section
open PySem PySem.W PyProof.Rows PySem.Calls PySem.Spec
namespace Mine
/-- a list of ints of the ledger, its marks untold -/
def ImmT (NX : List (Addr × Obj)) (l : Addr) (ns : List Int) : Prop := ∃ (vs : List Value) (n : Nat) (d : Option Addr) (sl : Array (Option Value)), (l, ({ cls := .type "list", dict := d, data := .seq vs.toArray n, slots := sl } : Obj)) ∈ NX ∧ IntsAre vs ns
/-- a list of such lists -/
def ImmLL (NX : List (Addr × Obj)) (D : Addr) (f : Nat → List Int) (n : Nat) : Prop := ∃ ps, ImmL NX D ps ∧ ps.length = n ∧ ∀ j, j < n → ∃ a, ps[j]? = some (.ref a) ∧ ImmT NX a (f j)
section
variable {NX NX' : List (Addr × Obj)} {g h h' : Heap} {L l c D : Addr} {vs : List Value} {ns : List Int} {lo hi n : Nat} {v v' : Option Value} {f : Nat → List Int} {m : Str → Option Value}
theorem ImmT.mono (x : ImmT NX l ns) (k : ∀ p ∈ NX, p ∈ NX') : ImmT NX' l ns := let ⟨vs, n, d, sl, m, i⟩ := x; ⟨vs, n, d, sl, k _ m, i⟩
theorem ImmT.intL (x : ImmT NX l ns) (N : News g L h NX) : IntL h l ns := let ⟨vs, _, _, _, m, i⟩ := x; ⟨vs, ⟨_, (N _ m).1, rfl, _, rfl⟩, i⟩
theorem ImmT.ne_cell (x : ImmT NX l ns) (y : ImmC NX c v) (N : News g L h NX) : l ≠ c := fun z => by
  obtain ⟨vs, n, dd, sl, m, _⟩ := x
  obtain ⟨o, m', d⟩ := y
  have h1 := (N _ m).1
  have h2 := (N _ m').1
  dsimp only at h1 h2
  rw [z, h2] at h1
  cases h1
  cases d
theorem ImmT.but (x : ImmT NX l ns) (hn : l ≠ c) (k : ∀ p ∈ NX, p.1 ≠ c → p ∈ NX') : ImmT NX' l ns := let ⟨vs, n, d, sl, m, i⟩ := x; ⟨vs, n, d, sl, k _ m hn, i⟩
theorem ImmLL.mono (x : ImmLL NX D f n) (k : ∀ p ∈ NX, p ∈ NX') : ImmLL NX' D f n := let ⟨ps, a, b, c⟩ := x; ⟨ps, a.mono k, b, fun j hj => let ⟨a, e, i⟩ := c j hj; ⟨a, e, i.mono k⟩⟩
theorem ImmLL.cell (x : ImmLL NX D f n) (y : ImmC NX c v) (N : News g L h NX) (k : ∀ p ∈ NX, p.1 ≠ c → p ∈ NX') : ImmLL NX' D f n :=
  let ⟨ps, a, b, e⟩ := x; ⟨ps, a.but (a.ne_cell y N) k, b, fun j hj => let ⟨a, e, i⟩ := e j hj; ⟨a, e, i.but (i.ne_cell y N) k⟩⟩
theorem ImmT.cell (x : ImmT NX D ns) (y : ImmC NX c v) (N : News g L h NX) (k : ∀ p ∈ NX, p.1 ≠ c → p ∈ NX') : ImmT NX' D ns := x.but (x.ne_cell y N) k
theorem ImmI.t (x : ImmI NX l ns lo hi) : ImmT NX l ns := let ⟨vs, ⟨n, m⟩, i, _⟩ := x; ⟨vs, n, none, #[], m, i⟩
theorem ImmI.cell (x : ImmI NX D ns lo hi) (y : ImmC NX c v) (N : News g L h NX) (k : ∀ p ∈ NX, p.1 ≠ c → p ∈ NX') : ImmI NX' D ns lo hi := let ⟨vs, a, b⟩ := x; ⟨vs, a.but (a.ne_cell y N) k, b⟩
/-- a list that came from a call, to the ledger -/
theorem ledgerI (N : News g L h' NX) (hL : h.get? L ≠ none) (hk : ∀ b o, g.get? b = some o → h.get? b = some o) (fr : h.get? D = none) (x : MInts h' D ns lo hi) :
    ∃ NX', News g L h' NX' ∧ (∀ p ∈ NX, p ∈ NX') ∧ ImmI NX' D ns lo hi := by
  obtain ⟨vs, ⟨n, e⟩, a, b⟩ := x
  refine ⟨(D, _) :: NX, fun p hp => ?_, fun p hp => .tail _ hp, vs, ⟨n, .head _⟩, a, b⟩
  rcases List.mem_cons.mp hp with rfl | hp
  · refine ⟨e, fun z => hL (z ▸ fr), ?_⟩
    cases q : g.get? D with
    | none => rfl
    | some o => rw [hk _ _ q] at fr; cases fr
  · exact N p hp
theorem IntL.obj (x : IntL h l ns) : ∃ (vs : List Value) (n : Nat) (d : Option Addr) (sl : Array (Option Value)), h.get? l = some { cls := .type "list", dict := d, data := .seq vs.toArray n, slots := sl } ∧ IntsAre vs ns := by
  obtain ⟨vs, ⟨⟨cls, d, data, sl⟩, ho, hc, n, hd⟩, i⟩ := x
  dsimp only at hc hd
  subst hc hd
  exact ⟨vs, n, d, sl, ho, i⟩
/-- an item that is a list of ints -/
def GLst (f : Nat → List Int) (i : Nat) (h : Heap) (_tk : Nat) (y : Value) : Prop := ∃ l, y = .ref l ∧ IntL h l (f i)
theorem GLst.stab (f : Nat → List Int) : GStab (GLst f) := fun _ _ _ _ _ _ ⟨l, e, vs, ⟨o, ho, r⟩, i⟩ _ k => ⟨l, e, vs, ⟨o, k _ _ e ho, r⟩, i⟩
end
section
variable {s₁ : Shared} {h₀ h' : Heap} {L D : Addr} {m m' : Str → Option Value} {NX : List (Addr × Obj)} {n tk : Nat} {ys : Array Value}
theorem CompFin.lists {f : Nat → List Int} (x : CompFin h₀ L m' NX s₁ n (GLst f) D h' tk ys) (F : Fr h₀ L s₁.heap m) : ∃ NX', News h₀ L h' NX' ∧ (∀ p ∈ NX, p ∈ NX') ∧ ImmLL NX' D f n := by
  obtain ⟨NX1, N1, k1, l1, _⟩ := x.ledger (fr_here F) F.keep
  obtain ⟨_, _, _, _, sz, hy, _⟩ := x
  obtain ⟨NX2, N2, k2, c2⟩ := collect (L := L) (g := h₀) (h := h') (n := n) (P := fun j a o => ∃ (vs : List Value) (k : Nat) (d : Option Addr) (sl : Array (Option Value)), ys.toList[j]? = some (.ref a) ∧ o = { cls := .type "list", dict := d, data := .seq vs.toArray k, slots := sl } ∧ IntsAre vs (f j)) (fun j hj => by
    have hj' : j < ys.size := by omega
    have e : ys[j]? = some ys[j] := Array.getElem?_eq_getElem hj'
    obtain ⟨⟨l, hl, hI⟩, hf⟩ := hy j _ e
    obtain ⟨vs, k, d, sl, ho, hi⟩ := hI.obj
    have fr := (hf l hl).2
    refine ⟨l, _, ⟨vs, k, d, sl, by rw [Array.getElem?_toList, e, hl], rfl, hi⟩, ho, fun z => fr_here F (z ▸ fr), ?_⟩
    cases q : h₀.get? l with
    | none => rfl
    | some o => rw [F.keep _ _ q] at fr; cases fr) N1
  refine ⟨NX2, N2, fun p hp => k2 p (k1 p hp), ys.toList, l1.mono k2, by simpa using sz, fun j hj => ?_⟩
  obtain ⟨a, o, ⟨vs, k, d, sl, e1, rfl, hi⟩, hm⟩ := c2 j hj
  exact ⟨a, e1, vs, k, d, sl, hm, hi⟩
theorem CompFin.ints {f : Nat → Int} {lo : Nat} (x : CompFin h₀ L m' NX s₁ n (GInt f lo) D h' tk ys) (F : Fr h₀ L s₁.heap m) : ∃ NX', News h₀ L h' NX' ∧ (∀ p ∈ NX, p ∈ NX') ∧ ImmI NX' D ((List.range n).map f) lo tk := by
  obtain ⟨NX1, N1, k1, l1, _⟩ := x.ledger (fr_here F) F.keep
  obtain ⟨_, _, _, _, sz, hy, _⟩ := x
  obtain ⟨a, b⟩ := fin_ints sz hy
  exact ⟨NX1, N1, k1, ys.toList, l1, a, b⟩
end
section
variable {prog : Program} {w : World} {A : Around} {E : Value → Shared → Prop} {s : Shared}
/-- an item of a list, from the end -/
theorem item_lastV {value slice : PySem.Expr} {l : Addr} {vs : List Value} {v : Value} {u : Tok} {Q : Value → Shared → Prop} (hl : s.heap.IsList l vs.toArray) (hv : vs[vs.length - 1]? = some v) (hfit : vs.length ≤ 1000)
    (hs : subscripted slice false (.ref l) (.int (-1) u) = operate [.ref l, .int (-1) u] (getItem (.ref l) (.int (-1) u))) (h : Q v s) :
    wpAny (model prog w) A (subscriptTail value slice (.ref l) (.int (-1) u)) Q E s := by
  have hpos : vs.length - 1 < vs.length := (List.getElem?_eq_some_iff.mp hv).1
  exact tail_any hl.typeIs slot_list_getitem.lookup (wpAny_getItem_list_neg hl (by decide) (by simp; omega) (by decide) (by
    rw [show ((-1 : Int) + (vs.toArray.size : Int)).toNat = vs.length - 1 by simp; omega]
    simpa using hv) h) hs
end
end Mine
end

section
open PySem PySem.W PyProof.Rows PySem.Calls PySem.Spec
namespace Mine
/-- an item that is an int -/
def GVal (f : Nat → Int) (i : Nat) (_h : Heap) (_tk : Nat) (y : Value) : Prop := ∃ t, y = .int (f i) t
theorem GVal.stab (f : Nat → Int) : GStab (GVal f) := fun _ _ _ _ _ _ x _ _ => x
theorem CompFin.vals {s₁ : Shared} {h₀ h' : Heap} {L D : Addr} {m m' : Str → Option Value} {NX : List (Addr × Obj)} {n tk : Nat} {ys : Array Value}
    {f : Nat → Int} (x : CompFin h₀ L m' NX s₁ n (GVal f) D h' tk ys) (F : Fr h₀ L s₁.heap m) : ∃ NX', News h₀ L h' NX' ∧ (∀ p ∈ NX, p ∈ NX') ∧ ImmT NX' D ((List.range n).map f) := by
  obtain ⟨NX1, N1, k1, ⟨n1, l1⟩, _⟩ := x.ledger (fr_here F) F.keep
  obtain ⟨_, _, _, _, sz, hy, _⟩ := x
  have := intsAre_list (l := ys.toList) (f := f) fun j y hj => (hy j y (by simpa using hj)).1
  rw [Array.length_toList, sz] at this
  exact ⟨NX1, N1, k1, ys.toList, n1, none, #[], l1, this⟩
theorem src_int {vs : List Value} {ns : List Int} (hi : IntsAre vs ns) {i : Nat} {v : Value} (h : vs.toArray[i]? = some v) : ∃ t, ∃ hlt : i < ns.length, v = .int (ns[i]'hlt) t := by
  rw [List.getElem?_toArray] at h
  have hlt : i < ns.length := by have := (List.getElem?_eq_some_iff.mp h).1; have := hi.length; omega
  obtain ⟨t, ht⟩ := hi.get i ns[i] (by simp [hlt])
  rw [ht] at h
  exact ⟨t, hlt, (Option.some.inj h).symm⟩
end Mine
end

section
open PySem PySem.W PyProof.Rows PySem.Calls PySem.Spec
namespace Mine
/-- the ledger at given addresses -/
theorem turn_end {g h' : Heap} {L : Addr} {NX3 : List (Addr × Obj)} (N3 : News g L h' NX3) : ∀ (as : List Addr), (∀ a ∈ as, ∃ o, (a, o) ∈ NX3) → ∃ nx : List (Addr × Obj), nx.map (·.1) = as ∧ (∀ p ∈ nx, p ∈ NX3) ∧ ∀ p ∈ NX3, p.1 ∈ as → p ∈ nx
  | [], _ => ⟨[], rfl, (fun _ h => nomatch h), fun _ _ h => nomatch h⟩
  | a :: as, H => by
    obtain ⟨o, ho⟩ := H a (.head _)
    obtain ⟨nx, e, k1, k2⟩ := turn_end N3 as fun b hb => H b (.tail _ hb)
    refine ⟨(a, o) :: nx, by simp [e], fun p hp => ?_, fun p hp hm => ?_⟩
    · rcases List.mem_cons.mp hp with rfl | hp
      · exact ho
      · exact k1 p hp
    · rcases List.mem_cons.mp hm with z | z
      · have h1 := (N3 _ hp).1
        have h2 := (N3 _ ho).1
        dsimp only at h1 h2
        rw [z, h2] at h1
        have : p = (a, o) := by
          obtain ⟨p1, p2⟩ := p
          dsimp only at z h1
          cases h1
          rw [z]
        rw [this]; exact .head _
      · exact .tail _ (k2 p hp z)
theorem ImmL.but2 {NX NX' : List (Addr × Obj)} {l c d : Addr} {vs : List Value} (x : ImmL NX l vs) (h1 : l ≠ c) (h2 : l ≠ d) (k : ∀ p ∈ NX, p.1 ≠ c → p.1 ≠ d → p ∈ NX') : ImmL NX' l vs := let ⟨n, m⟩ := x; ⟨n, k _ m h1 h2⟩
theorem ImmT.but2 {NX NX' : List (Addr × Obj)} {l c d : Addr} {ns : List Int} (x : ImmT NX l ns) (h1 : l ≠ c) (h2 : l ≠ d) (k : ∀ p ∈ NX, p.1 ≠ c → p.1 ≠ d → p ∈ NX') : ImmT NX' l ns := let ⟨vs, n, dd, sl, m, i⟩ := x; ⟨vs, n, dd, sl, k _ m h1 h2, i⟩
theorem ImmC.but2 {NX NX' : List (Addr × Obj)} {l c d : Addr} {v : Option Value} (x : ImmC NX l v) (h1 : l ≠ c) (h2 : l ≠ d) (k : ∀ p ∈ NX, p.1 ≠ c → p.1 ≠ d → p ∈ NX') : ImmC NX' l v := let ⟨o, m, e⟩ := x; ⟨o, k _ m h1 h2, e⟩
end Mine
end

section
open PySem PySem.W PyProof.Rows PySem.Calls PySem.Spec
namespace Mine
section
variable {prog : Program} {w : World} {A : Around} {E : Value → Shared → Prop} {s : Shared}
/-- two lists of the same ints are not unequal -/
theorem ne_same {a b : Addr} {ns : List Int} {Q : Value → Shared → Prop} (x : IntL s.heap a ns) (y : IntL s.heap b ns) (hu : A.units + 64 < cLine) (h : Q (.bool false) s) : wpAny (model prog w) A (compareOp .NotEq (.ref a) (.ref b)) Q E s := by
  obtain ⟨vs, hl, hi⟩ := x
  obtain ⟨us, hl', hi'⟩ := y
  exact ne_intsK hl hi hl' hi' hu (by rw [decide_eq_true rfl]; exact h)
end
/-- heads set ahead of a ledger -/
def Hds (g h : Heap) (L : Addr) (NX NY : List (Addr × Obj)) : Prop := News g L h NY ∧ ∀ p ∈ NX, p ∈ NY
theorem hds {g h : Heap} {L : Addr} {NX : List (Addr × Obj)} (N : News g L h NX) : Hds g h L NX NX := ⟨N, fun _ h => h⟩
theorem Hds.on {g h : Heap} {L a : Addr} {o : Obj} {NX NY : List (Addr × Obj)} (x : Hds g h L NX NY) (m : (a, o) ∈ NX) : Hds g h L NX ((a, o) :: NY) := ⟨hdN x.1 (x.2 _ m), fun p hp => .tail _ (x.2 p hp)⟩
/-- what a loop that turns no object keeps -/
def SameJ (NX : List (Addr × Obj)) (m : Str → Option Value) (xs : List Str) (_i : Nat) (m₁ : Str → Option Value) (nx : List (Addr × Obj)) : Prop := nx = NX ∧ ∀ y, y ∉ xs → m₁ y = m y
end Mine
end

section
open PySem PySem.W PyProof.Rows PySem.Calls
namespace Mine
local macro_rules | `(tactic| walk_at "pad of mine") => `(tactic| fail)
local macro_rules | `(tactic| walk_at "eval ListComp") => `(tactic| k_extra "eval ListComp")
local macro_rules | `(tactic| walk_at "exec Return some") => `(tactic| k_extra "exec Return some")
local macro_rules | `(tactic| walk_at "exec Try") => `(tactic| k_extra "exec Try")
local macro_rules | `(tactic| walk_at "subscriptTail") => `(tactic| k_extra "subscriptTail")
local macro_rules | `(tactic| walk_at "subscriptTail Name UnaryOp ref int") => `(tactic| k_extra "subscriptTail Name UnaryOp ref int")
local macro_rules | `(tactic| walk_at "subscriptTail Name Slice ref ref") => `(tactic| k_extra "subscriptTail Name Slice ref ref")
local macro_rules | `(tactic| walk_at "subscriptTail Name Name ref int") => `(tactic| k_extra "subscriptTail Name Name ref int")
local macro_rules | `(tactic| walk_at "subscriptTail Name BinOp ref int") => `(tactic| k_extra "subscriptTail Name BinOp ref int")
local macro_rules | `(tactic| walk_at "call ref") => `(tactic| k_extra "call ref")
local macro_rules | `(tactic| walk_at "call builtin:sum") => `(tactic| k_extra "call builtin:sum")
local macro_rules | `(tactic| walk_at "call builtin:list.append") => `(tactic| k_extra "call builtin:list.append")
local macro_rules | `(tactic| walk_at "exec While") => `(tactic| k_extra "exec While")
local macro_rules | `(tactic| walk_at "exec While Compare cons nil") => `(tactic| k_extra "exec While Compare cons nil")
local macro_rules | `(tactic| walk_at "exec For") => `(tactic| k_extra "exec For")
local macro_rules | `(tactic| walk_at "exec Assign cons ListComp") => `(tactic| k_extra "exec Assign cons ListComp")
local macro_rules | `(tactic| walk_at "compareOp Eq ref ref") => `(tactic| k_extra "compareOp Eq ref ref")
local macro_rules | `(tactic| walk_at "compareOp NotEq ref ref") => `(tactic| k_extra "compareOp NotEq ref ref")
local macro_rules | `(tactic| walk_at "exec For Name Call cons nil") => `(tactic| k_extra "exec For Name Call cons nil")
local macro_rules | `(tactic| walk_at "exec For Name Name cons nil") => `(tactic| k_extra "exec For Name Name cons nil")
local macro_rules | `(tactic| walk_at "binaryOp Mod int int") => `(tactic| k_extra "binaryOp Mod int int")
local macro_rules | `(tactic| walk_at "subscriptTail Name Call ref int") => `(tactic| k_extra "subscriptTail Name Call ref int")
set_option maxRecDepth 100000 in
set_option maxHeartbeats 4000000 in
theorem law_s0 {w : World} {g h : Heap} {L : Addr} {m : Str → Option Value} {NX : List (Addr × Obj)} {loose : List Str} {mean : ExcName → Option Value} {mg mb : Str → Option Value} {E : Value → Shared → Prop} {Q : Flow → Shared → Prop}
    {dp un tk : Nat} {gd : Option (List Code)} {base : Heap} {gens : Array GenState} {drawn : Drawn} {os : OsState} {rest : List Stmt}
    (B : Below (arnd dp un gd []) base [] g) (X : (hd.heap_39 w.params).In g) (T : Top hd.view_39 loose mean mg mb g) (hd : dp + 50 < recursionLimit) (hu : un + 400 < cLine) (F : Fr g L h m) (N : News g L h NX) {script : Addr} {ns : List Int}
    (hS : ImmC NX (L + 1) (some (.ref script))) (hN : ImmC NX (L + 1 + 1) none) (hs : IntL g script ns) (hlen : ns.length ≤ 63) (ht : 1 ≤ tk)
    (k : ∀ h' tk' D NX', Fr g L h' m → News g L h' NX' → (∀ p ∈ NX, p.1 ≠ L + 1 + 1 → p ∈ NX') → ImmC NX' (L + 1 + 1) (some (.ref D)) → ImmI NX' D ((List.range 8).map fun i => 1000 + ns.sum + rowM ns i) 1 tk' → tk ≤ tk' →
      wpAny (model PySem.Challenge.rw_rw0006_01.row.prog w) (arnd (dp + 1) (un + 3) gd [lawEnv L]) (execs rest (lawEnv L)) Q (fun e s' => wpAny (model PySem.Challenge.rw_rw0006_01.row.prog w) (arnd (dp + 1) (un + 3) gd [lawEnv L]) (leaving (lawEnv L) e) (fun _ s'' => E e s'') (fun e' s'' => E e' s'') s') ⟨h', gens, drawn, tk', os⟩) :
    wpAny (model PySem.Challenge.rw_rw0006_01.row.prog w) (arnd (dp + 1) (un + 3) gd [lawEnv L]) (execs (lawSt 0 :: rest) (lawEnv L)) Q (fun e s' => wpAny (model PySem.Challenge.rw_rw0006_01.row.prog w) (arnd (dp + 1) (un + 3) gd [lawEnv L]) (leaving (lawEnv L) e) (fun _ s'' => E e s'') (fun e' s'' => E e' s'') s') ⟨h, gens, drawn, tk, os⟩ := by
  k_with_none
  w_top off
  revert X
  k_fill
  intro X
  have KX := X
  show wpAny _ (arnd _ _ _ [(envX _ ⟨_, _, _, _, _⟩ _ _ _ _)]) (execs (Stmt.Assign _ _ _ :: _) (envX _ ⟨_, _, _, _, _⟩ _ _ _ _)) _ (fun e s' => wpAny _ (arnd _ _ _ [(envX _ ⟨_, _, _, _, _⟩ _ _ _ _)]) (leaving (envX _ ⟨_, _, _, _, _⟩ _ _ _ _) e) _ _ s') _
  obtain ⟨oS, mS, hS⟩ := hS
  have N1 := hdN N mS
  (k_with "storeName" => refine Hold.out ?_)
  (k_with "call ref" => (k_here; k_dflt (refine' CtrT.use c_row ?B ?F ?N ?X ?T ?hf ?hk ?hd ?hu ?pre ?_; (case B => k_asm); (case F => k_asm); (case N => k_asm); (case X => k_asm); (case T => k_asm); (case hf => exact rfl); (case hk => exact rfl); (case hd => omega); (case hu => omega); (case pre => exact ⟨⟨IntL.ext hs (fun b o e => F.keep b o e), hlen⟩, ht⟩); k_whole); (intro r' h' tk' F' N' e' le' p'); (try dsimp only)))
  k_steps
  k_with_none
  refine Hold.hold ?_
  obtain ⟨D, rfl, fr, hM⟩ := p'
  obtain ⟨NX1, N2, k1, i1⟩ := ledgerI N' (fr_here F) F.keep fr hM
  have c1 := hN.mono (fun p hp => k1 p (.tail _ hp))
  refine storeCell F' N2 (c := L + 1 + 1) (by with_unfolding_all rfl) c1 ?_
  intro h2 NX2 F2 N2' k2 c2 _
  exact k _ _ D NX2 F2 N2' (fun p hp hn => k2 p (k1 p (.tail _ hp)) hn) c2 (i1.cell c1 N2 k2) le'
end Mine
end

section
open PySem PySem.W PyProof.Rows PySem.Calls
namespace Mine
local macro_rules | `(tactic| walk_at "eval ListComp") => `(tactic| k_extra "eval ListComp")
local macro_rules | `(tactic| walk_at "exec Return some") => `(tactic| k_extra "exec Return some")
local macro_rules | `(tactic| walk_at "exec Try") => `(tactic| k_extra "exec Try")
local macro_rules | `(tactic| walk_at "subscriptTail") => `(tactic| k_extra "subscriptTail")
local macro_rules | `(tactic| walk_at "subscriptTail Name UnaryOp ref int") => `(tactic| k_extra "subscriptTail Name UnaryOp ref int")
local macro_rules | `(tactic| walk_at "subscriptTail Name Slice ref ref") => `(tactic| k_extra "subscriptTail Name Slice ref ref")
local macro_rules | `(tactic| walk_at "subscriptTail Name Name ref int") => `(tactic| k_extra "subscriptTail Name Name ref int")
local macro_rules | `(tactic| walk_at "subscriptTail Name BinOp ref int") => `(tactic| k_extra "subscriptTail Name BinOp ref int")
local macro_rules | `(tactic| walk_at "call ref") => `(tactic| k_extra "call ref")
local macro_rules | `(tactic| walk_at "call builtin:sum") => `(tactic| k_extra "call builtin:sum")
local macro_rules | `(tactic| walk_at "call builtin:list.append") => `(tactic| k_extra "call builtin:list.append")
local macro_rules | `(tactic| walk_at "exec While") => `(tactic| k_extra "exec While")
local macro_rules | `(tactic| walk_at "exec While Compare cons nil") => `(tactic| k_extra "exec While Compare cons nil")
local macro_rules | `(tactic| walk_at "exec For") => `(tactic| k_extra "exec For")
local macro_rules | `(tactic| walk_at "exec Assign cons ListComp") => `(tactic| k_extra "exec Assign cons ListComp")
local macro_rules | `(tactic| walk_at "compareOp Eq ref ref") => `(tactic| k_extra "compareOp Eq ref ref")
local macro_rules | `(tactic| walk_at "compareOp NotEq ref ref") => `(tactic| k_extra "compareOp NotEq ref ref")
local macro_rules | `(tactic| walk_at "exec For Name Call cons nil") => `(tactic| k_extra "exec For Name Call cons nil")
local macro_rules | `(tactic| walk_at "exec For Name Name cons nil") => `(tactic| k_extra "exec For Name Name cons nil")
local macro_rules | `(tactic| walk_at "binaryOp Mod int int") => `(tactic| k_extra "binaryOp Mod int int")
local macro_rules | `(tactic| walk_at "subscriptTail Name Call ref int") => `(tactic| k_extra "subscriptTail Name Call ref int")
set_option maxRecDepth 100000 in
set_option maxHeartbeats 4000000 in
theorem law_s1 {w : World} {g h : Heap} {L : Addr} {m : Str → Option Value} {NX : List (Addr × Obj)} {loose : List Str} {mean : ExcName → Option Value} {mg mb : Str → Option Value} {E : Value → Shared → Prop} {Q : Flow → Shared → Prop}
    {dp un tk : Nat} {gd : Option (List Code)} {base : Heap} {gens : Array GenState} {drawn : Drawn} {os : OsState} {rest : List Stmt}
    (B : Below (arnd dp un gd []) base [] g) (X : (hd.heap_39 w.params).In g) (T : Top hd.view_39 loose mean mg mb g) (hd : dp + 50 < recursionLimit) (hu : un + 400 < cLine) (F : Fr g L h m) (N : News g L h NX) {row : Addr} {lo hi : Nat} {ns : List Int}
    (hN : ImmC NX (L + 1 + 1) (some (.ref row))) (hR : ImmI NX row ns lo hi) (hlen : ns.length = 8)
    (k : ∀ h' tk' D NX', Fr g L h' (fun y => if y = Str.ofString "pieces" then some (.ref D) else m y) → News g L h' NX' → (∀ p ∈ NX, p ∈ NX') → ImmLL NX' D (fun j => ns.take j) 9 → tk ≤ tk' →
      wpAny (model PySem.Challenge.rw_rw0006_01.row.prog w) (arnd (dp + 1) (un + 3) gd [lawEnv L]) (execs rest (lawEnv L)) Q (fun e s' => wpAny (model PySem.Challenge.rw_rw0006_01.row.prog w) (arnd (dp + 1) (un + 3) gd [lawEnv L]) (leaving (lawEnv L) e) (fun _ s'' => E e s'') (fun e' s'' => E e' s'') s') ⟨h', gens, drawn, tk', os⟩) :
    wpAny (model PySem.Challenge.rw_rw0006_01.row.prog w) (arnd (dp + 1) (un + 3) gd [lawEnv L]) (execs (lawSt 1 :: rest) (lawEnv L)) Q (fun e s' => wpAny (model PySem.Challenge.rw_rw0006_01.row.prog w) (arnd (dp + 1) (un + 3) gd [lawEnv L]) (leaving (lawEnv L) e) (fun _ s'' => E e s'') (fun e' s'' => E e' s'') s') ⟨h, gens, drawn, tk, os⟩ := by
  k_with_none
  w_top off
  revert X
  k_fill
  intro X
  have KX := X
  show wpAny _ (arnd _ _ _ [(envX _ ⟨_, _, _, _, _⟩ _ _ _ _)]) (execs (Stmt.Assign _ _ _ :: _) (envX _ ⟨_, _, _, _, _⟩ _ _ _ _)) _ (fun e s' => wpAny _ (arnd _ _ _ [(envX _ ⟨_, _, _, _, _⟩ _ _ _ _)]) (leaving (envX _ ⟨_, _, _, _, _⟩ _ _ _ _) e) _ _ s') _
  obtain ⟨oN, mN, hN⟩ := hN
  obtain ⟨vs, ⟨nR, mR⟩, hi, _⟩ := hR
  have N1 := hdN (hdN N mN) (List.mem_cons_of_mem _ mR)
  clear N
  have hvl := hi.length
  (k_with "exec Assign cons ListComp" => refine Hold.out ?_)
  k_steps
  k_with_none
  refine Hold.hold ?_
  refine compAssign (h₀ := g) (by with_unfolding_all rfl) (by with_unfolding_all rfl) (by decide) (by with_unfolding_all rfl) (by decide) (by with_unfolding_all rfl) (by with_unfolding_all rfl) (by with_unfolding_all rfl) ?_ (by intro _; with_unfolding_all rfl)
  refine wpAny_with_toks (Nat.le_refl _) ?_
  k_steps
  rename News _ _ _ _ => N1
  rename Fr _ _ _ _ => F1
  rename IsRange _ _ _ _ _ _ _ _ => R1
  refine Feed.of (n := 9) (GLst fun j => ns.take j) (GLst.stab _) F1 N1 (srcRange rfl R1 (small_one (by decide) (by decide) (by omega) (by omega)) (by rw [rangeSize_nat]; omega)) (by decide) ?_ ?_
  · refine Elt.of F1 N1 ?_
    intro i v s₃ C oC m₃ E' hi8 hP F3 N3 hns hm K3 hCo htk
    obtain ⟨t, rfl⟩ := hP
    rw [show (0 : Int) + (i : Int) * 1 = (i : Int) by omega] at hm
    obtain ⟨g3, gens3, drawn3, toks3, os3⟩ := s₃
    dsimp only at F3 N3 K3 htk ⊢
    clear F1 N1
    k_unmd
    k_fold
    (k_with "subscriptTail Name Slice ref ref" => k_dflt ((rename News _ _ _ _ => N9); (rename Fr _ _ _ _ => F9); refine sliceT (lo := none) (hi := some (i : Int)) (st := none) F9 N9 (News.isList N9 (by first | exact .head _ | exact .tail _ (.head _) | exact .tail _ (.tail _ (.head _)) | exact .tail _ (.tail _ (.tail _ (.head _))) | exact .tail _ (.tail _ (.tail _ (.tail _ (.head _)))))) .none (.int _ _) .none (by decide) (by simp; have := hi.length; unfold sizeLine; omega) ?_ (by with_unfolding_all rfl) (by intro _; with_unfolding_all rfl); clear N9 F9; intro h9 F9 N9 K92 fr92))
    k_steps
    k_with_none
    have hT := slice_ints_uptoW hi (y := (i : Int)) (by omega)
    rw [Int.toNat_natCast] at hT
    exact EltPost.ref (fun b o e => K92 b o e) ⟨_, rfl, _, by simpa using News.isList N9 (.head _), hT⟩ fr92
  · intro D h' tk' ys hfin
    have le := hfin.2.2.2.2.2.2.2
    obtain ⟨NX', N2, k2, l2⟩ := hfin.lists F1
    have F2 := hfin.1
    exact k _ _ D NX' F2 N2 (fun p hp => k2 p (.tail _ (.tail _ hp))) l2 (by clear k hfin; dsimp only at *; omega)
end Mine
end

section
open PySem PySem.W PyProof.Rows PySem.Calls
namespace Mine
local macro_rules | `(tactic| walk_at "pad of mine") => `(tactic| fail)
local macro_rules | `(tactic| walk_at "eval ListComp") => `(tactic| k_extra "eval ListComp")
local macro_rules | `(tactic| walk_at "exec Return some") => `(tactic| k_extra "exec Return some")
local macro_rules | `(tactic| walk_at "exec Try") => `(tactic| k_extra "exec Try")
local macro_rules | `(tactic| walk_at "subscriptTail") => `(tactic| k_extra "subscriptTail")
local macro_rules | `(tactic| walk_at "subscriptTail Name UnaryOp ref int") => `(tactic| k_extra "subscriptTail Name UnaryOp ref int")
local macro_rules | `(tactic| walk_at "subscriptTail Name Slice ref ref") => `(tactic| k_extra "subscriptTail Name Slice ref ref")
local macro_rules | `(tactic| walk_at "subscriptTail Name Name ref int") => `(tactic| k_extra "subscriptTail Name Name ref int")
local macro_rules | `(tactic| walk_at "subscriptTail Name BinOp ref int") => `(tactic| k_extra "subscriptTail Name BinOp ref int")
local macro_rules | `(tactic| walk_at "call ref") => `(tactic| k_extra "call ref")
local macro_rules | `(tactic| walk_at "call builtin:sum") => `(tactic| k_extra "call builtin:sum")
local macro_rules | `(tactic| walk_at "call builtin:list.append") => `(tactic| k_extra "call builtin:list.append")
local macro_rules | `(tactic| walk_at "exec While") => `(tactic| k_extra "exec While")
local macro_rules | `(tactic| walk_at "exec While Compare cons nil") => `(tactic| k_extra "exec While Compare cons nil")
local macro_rules | `(tactic| walk_at "exec For") => `(tactic| k_extra "exec For")
local macro_rules | `(tactic| walk_at "exec Assign cons ListComp") => `(tactic| k_extra "exec Assign cons ListComp")
local macro_rules | `(tactic| walk_at "compareOp Eq ref ref") => `(tactic| k_extra "compareOp Eq ref ref")
local macro_rules | `(tactic| walk_at "compareOp NotEq ref ref") => `(tactic| k_extra "compareOp NotEq ref ref")
local macro_rules | `(tactic| walk_at "exec For Name Call cons nil") => `(tactic| k_extra "exec For Name Call cons nil")
local macro_rules | `(tactic| walk_at "exec For Name Name cons nil") => `(tactic| k_extra "exec For Name Name cons nil")
local macro_rules | `(tactic| walk_at "binaryOp Mod int int") => `(tactic| k_extra "binaryOp Mod int int")
local macro_rules | `(tactic| walk_at "subscriptTail Name Call ref int") => `(tactic| k_extra "subscriptTail Name Call ref int")
set_option maxRecDepth 100000 in
set_option maxHeartbeats 4000000 in
theorem law_s2 {w : World} {g h : Heap} {L : Addr} {m : Str → Option Value} {NX : List (Addr × Obj)} {loose : List Str} {mean : ExcName → Option Value} {mg mb : Str → Option Value} {E : Value → Shared → Prop} {Q : Flow → Shared → Prop}
    {dp un tk : Nat} {gd : Option (List Code)} {base : Heap} {gens : Array GenState} {drawn : Drawn} {os : OsState} {rest : List Stmt}
    (B : Below (arnd dp un gd []) base [] g) (X : (hd.heap_39 w.params).In g) (T : Top hd.view_39 loose mean mg mb g) (hd : dp + 50 < recursionLimit) (hu : un + 400 < cLine) (F : Fr g L h m) (N : News g L h NX) {P : Addr} {ns : List Int}
    (hm : m (Str.ofString "pieces") = some (.ref P)) (hP : ImmLL NX P (fun j => ns.take j) 9) (hlen : ns.length = 8)
    (k : ∀ h' tk' D NX', Fr g L h' (fun y => if y = Str.ofString "tables" then some (.ref D) else if y = Str.ofString "pieces" then some (.ref P) else m y) → News g L h' NX' → (∀ p ∈ NX, p ∈ NX') → ImmLL NX' D (fun j => tabF (ns.take j)) 9 → tk ≤ tk' →
      wpAny (model PySem.Challenge.rw_rw0006_01.row.prog w) (arnd (dp + 1) (un + 3) gd [lawEnv L]) (execs rest (lawEnv L)) Q (fun e s' => wpAny (model PySem.Challenge.rw_rw0006_01.row.prog w) (arnd (dp + 1) (un + 3) gd [lawEnv L]) (leaving (lawEnv L) e) (fun _ s'' => E e s'') (fun e' s'' => E e' s'') s') ⟨h', gens, drawn, tk', os⟩) :
    wpAny (model PySem.Challenge.rw_rw0006_01.row.prog w) (arnd (dp + 1) (un + 3) gd [lawEnv L]) (execs (lawSt 2 :: rest) (lawEnv L)) Q (fun e s' => wpAny (model PySem.Challenge.rw_rw0006_01.row.prog w) (arnd (dp + 1) (un + 3) gd [lawEnv L]) (leaving (lawEnv L) e) (fun _ s'' => E e s'') (fun e' s'' => E e' s'') s') ⟨h, gens, drawn, tk, os⟩ := by
  k_with_none
  w_top off
  revert X
  k_fill
  intro X
  have KX := X
  show wpAny _ (arnd _ _ _ [(envX _ ⟨_, _, _, _, _⟩ _ _ _ _)]) (execs (Stmt.Assign _ _ _ :: _) (envX _ ⟨_, _, _, _, _⟩ _ _ _ _)) _ (fun e s' => wpAny _ (arnd _ _ _ [(envX _ ⟨_, _, _, _, _⟩ _ _ _ _)]) (leaving (envX _ ⟨_, _, _, _, _⟩ _ _ _ _) e) _ _ s') _
  have F0 := F.known0 hm
  clear F
  have hPP := hP
  obtain ⟨ps, ⟨nP, mP⟩, hpl, hps⟩ := hP
  have N1 := hdN N mP
  clear N
  (k_with "exec Assign cons ListComp" => refine Hold.out ?_)
  k_steps
  k_with_none
  refine Hold.hold ?_
  refine compAssign (h₀ := g) (by with_unfolding_all rfl) (by with_unfolding_all rfl) (by decide) (by with_unfolding_all rfl) (by decide) (by with_unfolding_all rfl) (by with_unfolding_all rfl) (by with_unfolding_all rfl) ?_ (by intro _; with_unfolding_all rfl)
  refine wpAny_with_toks (Nat.le_refl _) ?_
  k_steps
  rename News _ _ _ _ => N1
  rename Fr _ _ _ _ => F1
  have hsz : ps.toArray.size = 9 := by simpa using hpl
  refine Feed.of (GLst fun j => tabF (ns.take j)) (GLst.stab _) F1 N1 (srcList rfl (News.isList N1 (.head _))) (by rw [hsz]; decide) ?_ ?_
  · refine Elt.of F1 N1 ?_
    intro i v s₃ C oC m₃ E' hi8 hP F3 N3 hns hm K3 hCo htk
    obtain ⟨a, ha, hT⟩ := hps i (by omega)
    have hv : v = .ref a := by
      rw [List.getElem?_toArray, ha] at hP
      exact (Option.some.inj hP).symm
    subst hv
    obtain ⟨g3, gens3, drawn3, toks3, os3⟩ := s₃
    dsimp only at F3 N3 K3 htk ⊢
    clear F1 N1
    have hI := hT.intL (subN N3 fun p hp => .tail _ (.tail _ hp))
    have hlt : (ns.take i).length ≤ 8 := by rw [List.length_take]; omega
    k_unmd
    k_fold
    (k_with "call ref" => (k_here; k_dflt (refine' Ctr.use c_tab ?B ?F ?N ?X ?T ?hf ?hk ?hd ?hu ?pre ?_; (case B => k_asm); (case F => k_asm); (case N => k_asm); (case X => k_asm); (case T => k_asm); (case hf => exact rfl); (case hk => exact rfl); (case hd => omega); (case hu => omega); (case pre => exact ⟨hI, hlt⟩); k_whole); (intro r' h' tk' F' N' e' p'; obtain ⟨T', q', fr', hT'⟩ := p'; subst q'); (try dsimp only)))
    k_steps
    k_with_none
    exact EltPost.ref (fun b o e => e' b o e) ⟨_, rfl, hT'⟩ fr'
  · intro D h' tk' ys hfin
    rw [hsz] at hfin
    obtain ⟨NX', N2, k2, l2⟩ := hfin.lists F1
    have F2 := hfin.1
    have le := hfin.2.2.2.2.2.2.2
    exact k _ _ D NX' F2 N2 (fun p hp => k2 p (.tail _ hp)) l2 (by clear k hfin; dsimp only at *; omega)
set_option maxRecDepth 100000 in
set_option maxHeartbeats 4000000 in
theorem law_s3 {w : World} {g h : Heap} {L : Addr} {m : Str → Option Value} {NX : List (Addr × Obj)} {loose : List Str} {mean : ExcName → Option Value} {mg mb : Str → Option Value} {E : Value → Shared → Prop} {Q : Flow → Shared → Prop}
    {dp un tk : Nat} {gd : Option (List Code)} {base : Heap} {gens : Array GenState} {drawn : Drawn} {os : OsState} {rest : List Stmt}
    (B : Below (arnd dp un gd []) base [] g) (X : (hd.heap_39 w.params).In g) (T : Top hd.view_39 loose mean mg mb g) (hd : dp + 50 < recursionLimit) (hu : un + 400 < cLine) (F : Fr g L h m) (N : News g L h NX) {P : Addr} {f : Nat → List Int}
    (hm : m (Str.ofString "tables") = some (.ref P)) (hP : ImmLL NX P f 9)
    (k : ∀ h' tk' a, Fr g L h' (fun y => if y = Str.ofString "told" then some (.ref a) else if y = Str.ofString "tables" then some (.ref P) else m y) → News g L h' NX → ImmT NX a (f 8) → tk ≤ tk' →
      wpAny (model PySem.Challenge.rw_rw0006_01.row.prog w) (arnd (dp + 1) (un + 3) gd [lawEnv L]) (execs rest (lawEnv L)) Q (fun e s' => wpAny (model PySem.Challenge.rw_rw0006_01.row.prog w) (arnd (dp + 1) (un + 3) gd [lawEnv L]) (leaving (lawEnv L) e) (fun _ s'' => E e s'') (fun e' s'' => E e' s'') s') ⟨h', gens, drawn, tk', os⟩) :
    wpAny (model PySem.Challenge.rw_rw0006_01.row.prog w) (arnd (dp + 1) (un + 3) gd [lawEnv L]) (execs (lawSt 3 :: rest) (lawEnv L)) Q (fun e s' => wpAny (model PySem.Challenge.rw_rw0006_01.row.prog w) (arnd (dp + 1) (un + 3) gd [lawEnv L]) (leaving (lawEnv L) e) (fun _ s'' => E e s'') (fun e' s'' => E e' s'') s') ⟨h, gens, drawn, tk, os⟩ := by
  k_with_none
  w_top off
  revert X
  k_fill
  intro X
  have KX := X
  show wpAny _ (arnd _ _ _ [(envX _ ⟨_, _, _, _, _⟩ _ _ _ _)]) (execs (Stmt.Assign _ _ _ :: _) (envX _ ⟨_, _, _, _, _⟩ _ _ _ _)) _ (fun e s' => wpAny _ (arnd _ _ _ [(envX _ ⟨_, _, _, _, _⟩ _ _ _ _)]) (leaving (envX _ ⟨_, _, _, _, _⟩ _ _ _ _) e) _ _ s') _
  have F0 := F.known0 hm
  clear F
  obtain ⟨ps, ⟨nP, mP⟩, hpl, hps⟩ := hP
  have N1 := hdN N mP
  clear N
  obtain ⟨a, ha, hT⟩ := hps 8 (by omega)
  refine execsT ?_
  (k_with "subscriptTail Name UnaryOp ref int" => k_dflt (refine item_lastV (News.isList (by assumption) (.head _)) (v := .ref a) (by rw [hpl]; exact ha) (by omega) (by with_unfolding_all rfl) ?_))
  k_steps
  k_with_none
  rename Fr _ _ _ _ => F9
  rename News _ _ _ _ => N9
  (try dsimp only)
  refine k _ _ a F9 (subN N9 fun p hp => .tail _ hp) hT ?_; (clear k; dsimp only at *; omega)
end Mine
end

section
open PySem PySem.W PyProof.Rows PySem.Calls
namespace Mine
local macro_rules | `(tactic| walk_at "eval ListComp") => `(tactic| k_extra "eval ListComp")
local macro_rules | `(tactic| walk_at "exec Return some") => `(tactic| k_extra "exec Return some")
local macro_rules | `(tactic| walk_at "exec Try") => `(tactic| k_extra "exec Try")
local macro_rules | `(tactic| walk_at "subscriptTail") => `(tactic| k_extra "subscriptTail")
local macro_rules | `(tactic| walk_at "subscriptTail Name UnaryOp ref int") => `(tactic| k_extra "subscriptTail Name UnaryOp ref int")
local macro_rules | `(tactic| walk_at "subscriptTail Name Slice ref ref") => `(tactic| k_extra "subscriptTail Name Slice ref ref")
local macro_rules | `(tactic| walk_at "subscriptTail Name Name ref int") => `(tactic| k_extra "subscriptTail Name Name ref int")
local macro_rules | `(tactic| walk_at "subscriptTail Name BinOp ref int") => `(tactic| k_extra "subscriptTail Name BinOp ref int")
local macro_rules | `(tactic| walk_at "call ref") => `(tactic| k_extra "call ref")
local macro_rules | `(tactic| walk_at "call builtin:sum") => `(tactic| k_extra "call builtin:sum")
local macro_rules | `(tactic| walk_at "call builtin:list.append") => `(tactic| k_extra "call builtin:list.append")
local macro_rules | `(tactic| walk_at "exec While") => `(tactic| k_extra "exec While")
local macro_rules | `(tactic| walk_at "exec While Compare cons nil") => `(tactic| k_extra "exec While Compare cons nil")
local macro_rules | `(tactic| walk_at "exec For") => `(tactic| k_extra "exec For")
local macro_rules | `(tactic| walk_at "exec Assign cons ListComp") => `(tactic| k_extra "exec Assign cons ListComp")
local macro_rules | `(tactic| walk_at "compareOp Eq ref ref") => `(tactic| k_extra "compareOp Eq ref ref")
local macro_rules | `(tactic| walk_at "compareOp NotEq ref ref") => `(tactic| k_extra "compareOp NotEq ref ref")
local macro_rules | `(tactic| walk_at "exec For Name Call cons nil") => `(tactic| k_extra "exec For Name Call cons nil")
local macro_rules | `(tactic| walk_at "exec For Name Name cons nil") => `(tactic| k_extra "exec For Name Name cons nil")
local macro_rules | `(tactic| walk_at "binaryOp Mod int int") => `(tactic| k_extra "binaryOp Mod int int")
local macro_rules | `(tactic| walk_at "subscriptTail Name Call ref int") => `(tactic| k_extra "subscriptTail Name Call ref int")
set_option maxRecDepth 100000 in
set_option maxHeartbeats 4000000 in
theorem law_s5 {w : World} {g h : Heap} {L : Addr} {m : Str → Option Value} {NX : List (Addr × Obj)} {loose : List Str} {mean : ExcName → Option Value} {mg mb : Str → Option Value} {E : Value → Shared → Prop} {Q : Flow → Shared → Prop}
    {dp un tk : Nat} {gd : Option (List Code)} {base : Heap} {gens : Array GenState} {drawn : Drawn} {os : OsState} {rest : List Stmt}
    (B : Below (arnd dp un gd []) base [] g) (X : (hd.heap_39 w.params).In g) (T : Top hd.view_39 loose mean mg mb g) (hd : dp + 50 < recursionLimit) (hu : un + 400 < cLine) (F : Fr g L h m) (N : News g L h NX) {script : Addr} {ns : List Int}
    (hS : ImmC NX (L + 1) (some (.ref script))) (hT : ImmC NX (L + 1 + 1 + 1) none) (hs : IntL g script ns) (hlen : ns.length ≤ 63)
    (k : ∀ h' tk' D NX', Fr g L h' m → News g L h' NX' → (∀ p ∈ NX, p.1 ≠ L + 1 + 1 + 1 → p ∈ NX') → ImmC NX' (L + 1 + 1 + 1) (some (.ref D)) → ImmI NX' D ((List.range 4).map fun i : Nat => 1000 + ns.sum + (i : Int)) tk tk' → tk ≤ tk' →
      wpAny (model PySem.Challenge.rw_rw0006_01.row.prog w) (arnd (dp + 1) (un + 3) gd [lawEnv L]) (execs rest (lawEnv L)) Q (fun e s' => wpAny (model PySem.Challenge.rw_rw0006_01.row.prog w) (arnd (dp + 1) (un + 3) gd [lawEnv L]) (leaving (lawEnv L) e) (fun _ s'' => E e s'') (fun e' s'' => E e' s'') s') ⟨h', gens, drawn, tk', os⟩) :
    wpAny (model PySem.Challenge.rw_rw0006_01.row.prog w) (arnd (dp + 1) (un + 3) gd [lawEnv L]) (execs (lawSt 5 :: rest) (lawEnv L)) Q (fun e s' => wpAny (model PySem.Challenge.rw_rw0006_01.row.prog w) (arnd (dp + 1) (un + 3) gd [lawEnv L]) (leaving (lawEnv L) e) (fun _ s'' => E e s'') (fun e' s'' => E e' s'') s') ⟨h, gens, drawn, tk, os⟩ := by
  k_with_none
  w_top off
  revert X
  k_fill
  intro X
  have KX := X
  show wpAny _ (arnd _ _ _ [(envX _ ⟨_, _, _, _, _⟩ _ _ _ _)]) (execs (Stmt.Assign _ _ _ :: _) (envX _ ⟨_, _, _, _, _⟩ _ _ _ _)) _ (fun e s' => wpAny _ (arnd _ _ _ [(envX _ ⟨_, _, _, _, _⟩ _ _ _ _)]) (leaving (envX _ ⟨_, _, _, _, _⟩ _ _ _ _) e) _ _ s') _
  obtain ⟨oS, mS, hS⟩ := hS
  have N1 := hdN N mS
  clear N
  obtain ⟨vs, hl, hi⟩ := hs
  have hvl := hi.length
  (k_with "exec Assign cons ListComp" => refine Hold.out ?_)
  k_steps
  k_with_none
  refine Hold.hold ?_
  refine wpAny_Assign_Name ?_ (by with_unfolding_all rfl)
  refine compEval (h₀ := g) (by with_unfolding_all rfl) (by decide) (by with_unfolding_all rfl) (by decide) (by with_unfolding_all rfl) ?_ (by intro _; with_unfolding_all rfl)
  refine wpAny_with_toks (Nat.le_refl _) ?_
  k_steps
  rename News _ _ _ _ => N1
  rename Fr _ _ _ _ => F1
  rename IsRange _ _ _ _ _ _ _ _ => R1
  refine Feed.ints (n := 4) (fun i : Nat => 1000 + ns.sum + (i : Int)) F1 N1 (srcRange rfl R1 (small_one (by decide) (by decide) (by decide) (by decide)) (by rw [rangeSize_nat]; rfl)) (by decide) ?_ ?_
  · refine Elt.of F1 N1 ?_
    intro i v s₃ C oC m₃ E' hi8 hP F3 N3 hns hm K3 hCo htk
    obtain ⟨t, rfl⟩ := hP
    rw [show (0 : Int) + (i : Int) * 1 = (i : Int) by omega] at hm
    obtain ⟨g3, gens3, drawn3, toks3, os3⟩ := s₃
    dsimp only at F3 N3 K3 htk ⊢
    clear F1 N1
    k_unmd
    k_fold
    (k_with "call builtin:sum" => k_dflt ((rename News _ _ _ _ => N9); (rename Fr _ _ _ _ => F9); refine sumT rfl F9 N9 (stays_list (fun b o e => F9.keep b o e) hl) hi ?_; clear N9 F9; intro h9 tk9 t9 F9 N9 K91 le91; (try dsimp only at le91)))
    k_steps
    k_with_none
    exact EltPost.int (fun b o e => K91 b o e) ⟨_, rfl, by (try dsimp only); omega, Nat.lt_succ_self _⟩
  · intro D h' tk' ys hfin
    have le := hfin.2.2.2.2.2.2.2
    obtain ⟨NX1, N2, k1, i1⟩ := hfin.ints F1
    have F2 := hfin.1
    have c1 := hT.mono (fun p hp => k1 p (.tail _ hp))
    (try dsimp only)
    refine storeCell F2 N2 (c := L + 1 + 1 + 1) (by with_unfolding_all rfl) c1 ?_
    intro h2 NX2 F3 N3 k2 c2 _
    refine k _ _ D NX2 F3 N3 (fun p hp hn => k2 p (k1 p (.tail _ hp)) hn) c2 ((i1.cell c1 N2 k2).weaken ?_ (Nat.le_refl _)) ?_ <;> (clear k hfin; dsimp only at *; omega)
set_option maxRecDepth 100000 in
set_option maxHeartbeats 4000000 in
theorem law_s6 {w : World} {g h : Heap} {L : Addr} {m : Str → Option Value} {NX : List (Addr × Obj)} {loose : List Str} {mean : ExcName → Option Value} {mg mb : Str → Option Value} {E : Value → Shared → Prop} {Q : Flow → Shared → Prop}
    {dp un tk : Nat} {gd : Option (List Code)} {base : Heap} {gens : Array GenState} {drawn : Drawn} {os : OsState} {rest : List Stmt}
    (B : Below (arnd dp un gd []) base [] g) (X : (hd.heap_39 w.params).In g) (T : Top hd.view_39 loose mean mg mb g) (hd : dp + 50 < recursionLimit) (hu : un + 400 < cLine) (F : Fr g L h m) (N : News g L h NX) {row lets : Addr} {ns ls : List Int}
    (hN : ImmC NX (L + 1 + 1) (some (.ref row))) (hR : ImmT NX row ns) (hlen : ns.length = 8) (hT : ImmC NX (L + 1 + 1 + 1) (some (.ref lets))) (hL : ImmT NX lets ls) (hll : ls.length = 4)
    (k : ∀ h' tk' D NX', Fr g L h' (fun y => if y = Str.ofString "masks" then some (.ref D) else m y) → News g L h' NX' → (∀ p ∈ NX, p ∈ NX') → ImmT NX' D ((List.range 4).map fun i => maskV (ls.getD i 0) ns.reverse) → tk ≤ tk' →
      wpAny (model PySem.Challenge.rw_rw0006_01.row.prog w) (arnd (dp + 1) (un + 3) gd [lawEnv L]) (execs rest (lawEnv L)) Q (fun e s' => wpAny (model PySem.Challenge.rw_rw0006_01.row.prog w) (arnd (dp + 1) (un + 3) gd [lawEnv L]) (leaving (lawEnv L) e) (fun _ s'' => E e s'') (fun e' s'' => E e' s'') s') ⟨h', gens, drawn, tk', os⟩) :
    wpAny (model PySem.Challenge.rw_rw0006_01.row.prog w) (arnd (dp + 1) (un + 3) gd [lawEnv L]) (execs (lawSt 6 :: rest) (lawEnv L)) Q (fun e s' => wpAny (model PySem.Challenge.rw_rw0006_01.row.prog w) (arnd (dp + 1) (un + 3) gd [lawEnv L]) (leaving (lawEnv L) e) (fun _ s'' => E e s'') (fun e' s'' => E e' s'') s') ⟨h, gens, drawn, tk, os⟩ := by
  k_with_none
  w_top off
  revert X
  k_fill
  intro X
  have KX := X
  show wpAny _ (arnd _ _ _ [(envX _ ⟨_, _, _, _, _⟩ _ _ _ _)]) (execs (Stmt.Assign _ _ _ :: _) (envX _ ⟨_, _, _, _, _⟩ _ _ _ _)) _ (fun e s' => wpAny _ (arnd _ _ _ [(envX _ ⟨_, _, _, _, _⟩ _ _ _ _)]) (leaving (envX _ ⟨_, _, _, _, _⟩ _ _ _ _) e) _ _ s') _
  obtain ⟨oN, mN, hN⟩ := hN
  obtain ⟨oT, mT, hT⟩ := hT
  have hRR := hR
  obtain ⟨vs, nR, dR, sR, mR, hi⟩ := hR
  obtain ⟨us, nL, dL, sL, mL, hj⟩ := hL
  have N1 := hdN (hdN (hdN (hdN N mR) (.tail _ mL)) (.tail _ (.tail _ mN))) (.tail _ (.tail _ (.tail _ mT)))
  clear N
  have hvl := hi.length
  have hul := hj.length
  (k_with "exec Assign cons ListComp" => refine Hold.out ?_)
  k_steps
  k_with_none
  refine Hold.hold ?_
  refine compAssign (h₀ := g) (by with_unfolding_all rfl) (by with_unfolding_all rfl) (by decide) (by with_unfolding_all rfl) (by decide) (by with_unfolding_all rfl) (by with_unfolding_all rfl) (by with_unfolding_all rfl) ?_ (by intro _; with_unfolding_all rfl)
  refine wpAny_with_toks (Nat.le_refl _) ?_
  k_steps
  rename News _ _ _ _ => N1
  rename Fr _ _ _ _ => F1
  have hsz : us.toArray.size = 4 := by simp; omega
  refine Feed.of (GVal fun i => maskV (ls.getD i 0) ns.reverse) (GVal.stab _) F1 N1 (srcList rfl (News.isList N1 (.tail _ (.tail _ (.head _))))) (by rw [hsz]; decide) ?_ ?_
  · refine Elt.of F1 N1 ?_
    intro i v s₃ C oC m₃ E' hi8 hP F3 N3 hns hm K3 hCo htk
    obtain ⟨t, hlt, rfl⟩ := src_int hj hP
    obtain ⟨g3, gens3, drawn3, toks3, os3⟩ := s₃
    dsimp only at F3 N3 K3 htk ⊢
    clear F1 N1
    have hI := hRR.intL (subN N3 fun p hp => .tail _ (.tail _ (.tail _ (.tail _ (.tail _ hp)))))
    k_unmd
    k_fold
    (k_with "call ref" => (k_here; k_dflt (refine' Ctr.use c_mask ?B ?F ?N ?X ?T ?hf ?hk ?hd ?hu ?pre ?_; (case B => k_asm); (case F => k_asm); (case N => k_asm); (case X => k_asm); (case T => k_asm); (case hf => exact rfl); (case hk => exact rfl); (case hd => omega); (case hu => omega); (case pre => exact ⟨hI, by omega⟩); k_whole); (intro r' h' tk' F' N' e' p'; obtain ⟨t', q'⟩ := p'; subst q'); (try dsimp only)))
    k_steps
    k_with_none
    exact EltPost.int (fun b o e => e' b o e) ⟨t', by simp [List.getD_eq_getElem?_getD, hlt]⟩
  · intro D h' tk' ys hfin
    have le := hfin.2.2.2.2.2.2.2
    rw [hsz] at hfin
    obtain ⟨NX', N2, k2, l2⟩ := hfin.vals F1
    have F2 := hfin.1
    refine k _ _ D NX' F2 N2 (fun p hp => k2 p (.tail _ (.tail _ (.tail _ (.tail _ hp))))) l2 ?_; (clear k hfin; dsimp only at *; omega)
end Mine
end

section
open PySem PySem.W PyProof.Rows PySem.Calls
namespace Mine
local macro_rules | `(tactic| walk_at "pad of mine") => `(tactic| fail)
local macro_rules | `(tactic| walk_at "eval ListComp") => `(tactic| k_extra "eval ListComp")
local macro_rules | `(tactic| walk_at "exec Return some") => `(tactic| k_extra "exec Return some")
local macro_rules | `(tactic| walk_at "exec Try") => `(tactic| k_extra "exec Try")
local macro_rules | `(tactic| walk_at "subscriptTail") => `(tactic| k_extra "subscriptTail")
local macro_rules | `(tactic| walk_at "subscriptTail Name UnaryOp ref int") => `(tactic| k_extra "subscriptTail Name UnaryOp ref int")
local macro_rules | `(tactic| walk_at "subscriptTail Name Slice ref ref") => `(tactic| k_extra "subscriptTail Name Slice ref ref")
local macro_rules | `(tactic| walk_at "subscriptTail Name Name ref int") => `(tactic| k_extra "subscriptTail Name Name ref int")
local macro_rules | `(tactic| walk_at "subscriptTail Name BinOp ref int") => `(tactic| k_extra "subscriptTail Name BinOp ref int")
local macro_rules | `(tactic| walk_at "call ref") => `(tactic| k_extra "call ref")
local macro_rules | `(tactic| walk_at "call builtin:sum") => `(tactic| k_extra "call builtin:sum")
local macro_rules | `(tactic| walk_at "call builtin:list.append") => `(tactic| k_extra "call builtin:list.append")
local macro_rules | `(tactic| walk_at "exec While") => `(tactic| k_extra "exec While")
local macro_rules | `(tactic| walk_at "exec While Compare cons nil") => `(tactic| k_extra "exec While Compare cons nil")
local macro_rules | `(tactic| walk_at "exec For") => `(tactic| k_extra "exec For")
local macro_rules | `(tactic| walk_at "exec Assign cons ListComp") => `(tactic| k_extra "exec Assign cons ListComp")
local macro_rules | `(tactic| walk_at "compareOp Eq ref ref") => `(tactic| k_extra "compareOp Eq ref ref")
local macro_rules | `(tactic| walk_at "compareOp NotEq ref ref") => `(tactic| k_extra "compareOp NotEq ref ref")
local macro_rules | `(tactic| walk_at "exec For Name Call cons nil") => `(tactic| k_extra "exec For Name Call cons nil")
local macro_rules | `(tactic| walk_at "exec For Name Name cons nil") => `(tactic| k_extra "exec For Name Name cons nil")
local macro_rules | `(tactic| walk_at "binaryOp Mod int int") => `(tactic| k_extra "binaryOp Mod int int")
local macro_rules | `(tactic| walk_at "subscriptTail Name Call ref int") => `(tactic| k_extra "subscriptTail Name Call ref int")
set_option maxRecDepth 100000 in
set_option maxHeartbeats 4000000 in
theorem law_s7 {w : World} {g h : Heap} {L : Addr} {m : Str → Option Value} {NX : List (Addr × Obj)} {loose : List Str} {mean : ExcName → Option Value} {mg mb : Str → Option Value} {E : Value → Shared → Prop} {Q : Flow → Shared → Prop}
    {dp un tk : Nat} {gd : Option (List Code)} {base : Heap} {gens : Array GenState} {drawn : Drawn} {os : OsState} {rest : List Stmt}
    (B : Below (arnd dp un gd []) base [] g) (X : (hd.heap_39 w.params).In g) (T : Top hd.view_39 loose mean mg mb g) (hd : dp + 50 < recursionLimit) (hu : un + 400 < cLine) (F : Fr g L h m) (N : News g L h NX) {row lets : Addr} {ns ls : List Int} {lo hi lo2 hi2 : Nat} {r : Nat → Nat}
    (hN : ImmC NX (L + 1 + 1) (some (.ref row))) (hR : ImmI NX row ns lo hi) (hlen : ns.length = 8) (hT : ImmC NX (L + 1 + 1 + 1) (some (.ref lets))) (hL : ImmI NX lets ls lo2 hi2) (hll : ls.length = 4)
    (h1 : 1 ≤ lo) (h2 : hi ≤ lo2) (hlo : lo ≤ lo2) (hidx : ∀ j x, ns[j]? = some x → ls[r j]? = some x ∧ ∀ i, i < r j → ls[i]? ≠ some x)
    (k : ∀ h' tk' D NX', Fr g L h' (fun y => if y = Str.ofString "found" then some (.ref D) else m y) → News g L h' NX' → (∀ p ∈ NX, p ∈ NX') → ImmT NX' D ((List.range 8).map fun i => (r i : Int)) → tk ≤ tk' →
      wpAny (model PySem.Challenge.rw_rw0006_01.row.prog w) (arnd (dp + 1) (un + 3) gd [lawEnv L]) (execs rest (lawEnv L)) Q (fun e s' => wpAny (model PySem.Challenge.rw_rw0006_01.row.prog w) (arnd (dp + 1) (un + 3) gd [lawEnv L]) (leaving (lawEnv L) e) (fun _ s'' => E e s'') (fun e' s'' => E e' s'') s') ⟨h', gens, drawn, tk', os⟩) :
    wpAny (model PySem.Challenge.rw_rw0006_01.row.prog w) (arnd (dp + 1) (un + 3) gd [lawEnv L]) (execs (lawSt 7 :: rest) (lawEnv L)) Q (fun e s' => wpAny (model PySem.Challenge.rw_rw0006_01.row.prog w) (arnd (dp + 1) (un + 3) gd [lawEnv L]) (leaving (lawEnv L) e) (fun _ s'' => E e s'') (fun e' s'' => E e' s'') s') ⟨h, gens, drawn, tk, os⟩ := by
  k_with_none
  w_top off
  revert X
  k_fill
  intro X
  have KX := X
  show wpAny _ (arnd _ _ _ [(envX _ ⟨_, _, _, _, _⟩ _ _ _ _)]) (execs (Stmt.Assign _ _ _ :: _) (envX _ ⟨_, _, _, _, _⟩ _ _ _ _)) _ (fun e s' => wpAny _ (arnd _ _ _ [(envX _ ⟨_, _, _, _, _⟩ _ _ _ _)]) (leaving (envX _ ⟨_, _, _, _, _⟩ _ _ _ _) e) _ _ s') _
  obtain ⟨oN, mN, hN⟩ := hN
  obtain ⟨oT, mT, hT⟩ := hT
  obtain ⟨vs, ⟨nR, mR⟩, hi, hb⟩ := hR
  obtain ⟨us, ⟨nL, mL⟩, hj, hb2⟩ := hL
  have N1 := hdN (hdN (hdN (hdN N mR) (.tail _ mL)) (.tail _ (.tail _ mN))) (.tail _ (.tail _ (.tail _ mT)))
  clear N
  have hvl := hi.length
  have hul := hj.length
  (k_with "exec Assign cons ListComp" => refine Hold.out ?_)
  k_steps
  k_with_none
  refine Hold.hold ?_
  refine compAssign (h₀ := g) (by with_unfolding_all rfl) (by with_unfolding_all rfl) (by decide) (by with_unfolding_all rfl) (by decide) (by with_unfolding_all rfl) (by with_unfolding_all rfl) (by with_unfolding_all rfl) ?_ (by intro _; with_unfolding_all rfl)
  refine wpAny_with_toks (Nat.le_refl _) ?_
  k_steps
  rename News _ _ _ _ => N1
  rename Fr _ _ _ _ => F1
  have hsz : vs.toArray.size = 8 := by simp; omega
  refine Feed.of (GVal fun i => (r i : Int)) (GVal.stab _) F1 N1 (srcList rfl (News.isList N1 (.tail _ (.tail _ (.tail _ (.head _)))))) (by rw [hsz]; decide) ?_ ?_
  · refine Elt.of F1 N1 ?_
    intro i v s₃ C oC m₃ E' hi8 hP F3 N3 hns hm K3 hCo htk
    have hP' := hP
    obtain ⟨t, hlt, rfl⟩ := src_int hi hP
    obtain ⟨g3, gens3, drawn3, toks3, os3⟩ := s₃
    dsimp only at F3 N3 K3 htk ⊢
    clear F1 N1
    have hmv := hb _ t (List.mem_of_getElem? (by rw [List.getElem?_toArray] at hP'; exact hP'))
    have hix := hidx i ns[i] (by simp [hlt])
    (k_with "call ref" => refine Hold.out ?_)
    k_unmd
    k_fold
    k_steps
    k_with_none
    refine Hold.hold ?_
    refine c_index (vs := us) (ns := ls) loose mean mg mb _ _ _ (dp + 1) (un + 3) gd _ base (below_in B F3 rfl rfl) (KX.keeps F3.keep) (T.keeps F3.keep) (by omega) (by omega) ⟨⟨News.isList N3 (.tail _ (.tail _ (.tail _ (.head _)))), hj⟩, by omega⟩ ⟨Nat.ne_of_gt (Nat.lt_of_lt_of_le h1 hmv.1), fun i' t' hm' => ?_⟩ ?_ ?_
    · have := hb2 i' t' hm'
      exact ⟨Nat.ne_of_gt (Nat.lt_of_lt_of_le h1 (Nat.le_trans hlo this.1)), fun z => absurd z (Nat.ne_of_gt (Nat.lt_of_lt_of_le hmv.2 (Nat.le_trans h2 this.1)))⟩
    · intro i' t' h' tk' K' e1 e2
      have hii : i' = r i := by
        rcases Nat.lt_trichotomy i' (r i) with z | z | z
        · exact absurd e1 (hix.2 _ z)
        · exact z
        · exact absurd hix.1 (e2 _ z)
      subst hii
      (try dsimp only)
      exact EltPost.int (fun b o e => K' b o e) ⟨t', rfl⟩
    · intro e h' tk' _ _ hno
      exact absurd (List.mem_of_getElem? hix.1) hno
  · intro D h' tk' ys hfin
    have le := hfin.2.2.2.2.2.2.2
    rw [hsz] at hfin
    obtain ⟨NX', N2, k2, l2⟩ := hfin.vals F1
    have F2 := hfin.1
    refine k _ _ D NX' F2 N2 (fun p hp => k2 p (.tail _ (.tail _ (.tail _ (.tail _ hp))))) l2 ?_; (clear k hfin; dsimp only at *; omega)
end Mine
end

section
open PySem PySem.W PyProof.Rows PySem.Calls
namespace Mine
local macro_rules | `(tactic| walk_at "eval ListComp") => `(tactic| k_extra "eval ListComp")
local macro_rules | `(tactic| walk_at "exec Return some") => `(tactic| k_extra "exec Return some")
local macro_rules | `(tactic| walk_at "exec Try") => `(tactic| k_extra "exec Try")
local macro_rules | `(tactic| walk_at "subscriptTail") => `(tactic| k_extra "subscriptTail")
local macro_rules | `(tactic| walk_at "subscriptTail Name UnaryOp ref int") => `(tactic| k_extra "subscriptTail Name UnaryOp ref int")
local macro_rules | `(tactic| walk_at "subscriptTail Name Slice ref ref") => `(tactic| k_extra "subscriptTail Name Slice ref ref")
local macro_rules | `(tactic| walk_at "subscriptTail Name Name ref int") => `(tactic| k_extra "subscriptTail Name Name ref int")
local macro_rules | `(tactic| walk_at "subscriptTail Name BinOp ref int") => `(tactic| k_extra "subscriptTail Name BinOp ref int")
local macro_rules | `(tactic| walk_at "call ref") => `(tactic| k_extra "call ref")
local macro_rules | `(tactic| walk_at "call builtin:sum") => `(tactic| k_extra "call builtin:sum")
local macro_rules | `(tactic| walk_at "call builtin:list.append") => `(tactic| k_extra "call builtin:list.append")
local macro_rules | `(tactic| walk_at "exec While") => `(tactic| k_extra "exec While")
local macro_rules | `(tactic| walk_at "exec While Compare cons nil") => `(tactic| k_extra "exec While Compare cons nil")
local macro_rules | `(tactic| walk_at "exec For") => `(tactic| k_extra "exec For")
local macro_rules | `(tactic| walk_at "exec Assign cons ListComp") => `(tactic| k_extra "exec Assign cons ListComp")
local macro_rules | `(tactic| walk_at "compareOp Eq ref ref") => `(tactic| k_extra "compareOp Eq ref ref")
local macro_rules | `(tactic| walk_at "compareOp NotEq ref ref") => `(tactic| k_extra "compareOp NotEq ref ref")
local macro_rules | `(tactic| walk_at "exec For Name Call cons nil") => `(tactic| k_extra "exec For Name Call cons nil")
local macro_rules | `(tactic| walk_at "exec For Name Name cons nil") => `(tactic| k_extra "exec For Name Name cons nil")
local macro_rules | `(tactic| walk_at "binaryOp Mod int int") => `(tactic| k_extra "binaryOp Mod int int")
local macro_rules | `(tactic| walk_at "subscriptTail Name Call ref int") => `(tactic| k_extra "subscriptTail Name Call ref int")
set_option maxRecDepth 100000 in
set_option maxHeartbeats 4000000 in
theorem law_s4 {w : World} {g h : Heap} {L : Addr} {m : Str → Option Value} {NX : List (Addr × Obj)} {loose : List Str} {mean : ExcName → Option Value} {mg mb : Str → Option Value} {E : Value → Shared → Prop} {Q : Flow → Shared → Prop}
    {dp un tk : Nat} {gd : Option (List Code)} {base : Heap} {gens : Array GenState} {drawn : Drawn} {os : OsState} {rest : List Stmt}
    (B : Below (arnd dp un gd []) base [] g) (X : (hd.heap_39 w.params).In g) (T : Top hd.view_39 loose mean mg mb g) (hd : dp + 50 < recursionLimit) (hu : un + 400 < cLine) (F : Fr g L h m) (N : News g L h NX) {row P Tb to : Addr} {ns ts : List Int} {f : Nat → List Int}
    (hN : ImmC NX (L + 1 + 1) (some (.ref row))) (hR : ImmT NX row ns) (hlen : ns.length = 8)
    (hm1 : m (Str.ofString "pieces") = some (.ref P)) (hm2 : m (Str.ofString "tables") = some (.ref Tb)) (hm3 : m (Str.ofString "told") = some (.ref to))
    (hP : ImmLL NX P (fun j => ns.take j) 9) (hTb : ImmLL NX Tb f 9) (hto : ImmT NX to ts) (htl : ts.length = 8) (hf : ∀ j, j ≤ 8 → f j = ts.take j)
    (k : ∀ h' tk' m', Fr g L h' m' → News g L h' NX → (∀ y, y ∉ [Str.ofString "place"] → m' y = m y) → tk ≤ tk' →
      wpAny (model PySem.Challenge.rw_rw0006_01.row.prog w) (arnd (dp + 1) (un + 3) gd [lawEnv L]) (execs rest (lawEnv L)) Q (fun e s' => wpAny (model PySem.Challenge.rw_rw0006_01.row.prog w) (arnd (dp + 1) (un + 3) gd [lawEnv L]) (leaving (lawEnv L) e) (fun _ s'' => E e s'') (fun e' s'' => E e' s'') s') ⟨h', gens, drawn, tk', os⟩) :
    wpAny (model PySem.Challenge.rw_rw0006_01.row.prog w) (arnd (dp + 1) (un + 3) gd [lawEnv L]) (execs (lawSt 4 :: rest) (lawEnv L)) Q (fun e s' => wpAny (model PySem.Challenge.rw_rw0006_01.row.prog w) (arnd (dp + 1) (un + 3) gd [lawEnv L]) (leaving (lawEnv L) e) (fun _ s'' => E e s'') (fun e' s'' => E e' s'') s') ⟨h, gens, drawn, tk, os⟩ := by
  k_with_none
  w_top off
  revert X
  k_fill
  intro X
  have KX := X
  show wpAny _ (arnd _ _ _ [(envX _ ⟨_, _, _, _, _⟩ _ _ _ _)]) (execs (Stmt.For _ _ _ _ _ :: _) (envX _ ⟨_, _, _, _, _⟩ _ _ _ _)) _ (fun e s' => wpAny _ (arnd _ _ _ [(envX _ ⟨_, _, _, _, _⟩ _ _ _ _)]) (leaving (envX _ ⟨_, _, _, _, _⟩ _ _ _ _) e) _ _ s') _
  have hRR := hR
  obtain ⟨vs, nR, dR, sR, mR, hi⟩ := hR
  obtain ⟨us, nT, dT, sT, mT, hj⟩ := hto
  obtain ⟨oN, mN, hNd⟩ := hN
  obtain ⟨ps, ⟨nP, mP⟩, hpl, hps⟩ := hP
  obtain ⟨qs, ⟨nQ, mQ⟩, hql, hqs⟩ := hTb
  have hvl := hi.length
  have hul := hj.length
  have N1 := hdN (hdN N mN) (.tail _ mR)
  refine execsT ?_
  (k_with "exec For Name Call cons nil" => (k_here; (rename Fr _ _ _ _ => lF'); (with_unfolding_all refine' For_invVF lF' ?k1 ?k2 ?_; (case k1 => exact rfl); (case k2 => exact rfl); k_whole)))
  (k_with "pyIter ref" => refine Hold.out ?_)
  k_steps
  k_with_none
  refine Hold.hold ?_
  (try dsimp only)
  rename IsRange _ _ _ _ _ _ _ _ => R1
  rename Fr _ _ _ _ => F1
  rename News _ _ _ _ => N2
  refine iterRng (n := 9) (news := NX) (SameJ NX m [Str.ofString "place"]) rfl R1 (small_one (by decide) (by decide) (by omega) (by omega)) (by rw [rangeSize_nat]; omega) F1 (subN N2 fun p hp => by first | exact .tail _ (.tail _ hp) | exact .tail _ (.tail _ (.tail _ hp))) ⟨rfl, fun _ _ => rfl⟩ ?_ ?_
  · intro i kk tk' m₁ news₁ h₁ tk₁ own hin hk hadr hoff hJ F2 N3
    obtain ⟨rfl, hmm⟩ := hJ
    obtain rfl : kk = (i : Int) := by omega
    have F3 := F2.known0 (n := (Str.ofString "pieces")) (w := .ref P) (by (try dsimp only); (repeat rw [if_neg (by decide)]); rw [hmm _ (by decide)]; exact hm1)
    have F4 := F3.known0 (n := (Str.ofString "tables")) (w := .ref Tb) (by (try dsimp only); (repeat rw [if_neg (by decide)]); rw [hmm _ (by decide)]; exact hm2)
    have F5 := F4.known0 (n := (Str.ofString "told")) (w := .ref to) (by (try dsimp only); (repeat rw [if_neg (by decide)]); rw [hmm _ (by decide)]; exact hm3)
    clear F1 F2 F3 F4 N2 N
    obtain ⟨a, ha, avs, na, da, sa, ma, hia⟩ := hps i (by omega)
    obtain ⟨b, hb, bvs, nb, db, sb, mb, hib⟩ := hqs i (by omega)
    have lft : ∀ {p : Addr × Obj}, p ∈ news₁ → p ∈ news₁ ++ own := fun hp => List.mem_append_left _ hp
    generalize hNY : news₁ ++ own = NY at *
    have N4 := hdN (hdN (hdN (hdN (hdN (hdN (hdN N3 (lft mN)) (.tail _ (lft mR))) (.tail _ (.tail _ (lft mP)))) (.tail _ (.tail _ (.tail _ (lft mQ))))) (.tail _ (.tail _ (.tail _ (.tail _ (lft mT)))))) (.tail _ (.tail _ (.tail _ (.tail _ (.tail _ (lft ma))))))) (.tail _ (.tail _ (.tail _ (.tail _ (.tail _ (.tail _ (lft mb)))))))
    clear N3
    have hS1 := slice_ints_uptoW hi (y := (i : Int)) (by omega)
    have hS2 := slice_ints_uptoW hj (y := (i : Int)) (by omega)
    rw [Int.toNat_natCast] at hS1 hS2
    rw [hf i (by omega)] at hib
    have hbl := hib.length
    rw [List.length_take] at hbl
    (k_with "subscriptTail Name Name ref int" => k_dflt (first | refine item_val (k := i) (News.isList (by assumption) (by (repeat' (first | exact List.Mem.head _ | apply List.Mem.tail)))) ha (by omega) (by with_unfolding_all rfl) ?_ | refine item_val (k := i) (News.isList (by assumption) (by (repeat' (first | exact List.Mem.head _ | apply List.Mem.tail)))) hb (by omega) (by with_unfolding_all rfl) ?_))
    (k_with "subscriptTail Name Slice ref ref" => k_dflt ((rename News _ _ _ _ => N9); (rename Fr _ _ _ _ => F9); refine sliceT (lo := none) (hi := some (i : Int)) (st := none) F9 N9 (News.isList N9 (by (repeat' (first | exact List.Mem.head _ | apply List.Mem.tail)))) .none (.int _ _) .none (by decide) (by simp; unfold sizeLine; omega) ?_ (by with_unfolding_all rfl) (by intro _; with_unfolding_all rfl); clear N9 F9; intro h9 F9 N9 K92 fr92))
    (k_with "compareOp NotEq ref ref" => k_dflt (first | refine ne_same ⟨_, News.isList (by assumption) (by (repeat' (first | exact List.Mem.head _ | apply List.Mem.tail))), hia⟩ ⟨_, isList_pick (by assumption) (by (repeat' (first | exact List.Mem.head _ | apply List.Mem.tail))), hS1⟩ (by omega) ?_ | refine ne_same ⟨_, News.isList (by assumption) (by (repeat' (first | exact List.Mem.head _ | apply List.Mem.tail))), hib⟩ ⟨_, isList_pick (by assumption) (by (repeat' (first | exact List.Mem.head _ | apply List.Mem.tail))), hS2⟩ (by omega) ?_))
    (k_with "call ref" => (k_here; k_dflt (refine' Ctr.use c_whole ?B ?F ?N ?X ?T ?hf ?hk ?hd ?hu ?pre ?_; (case B => k_asm); (case F => k_asm); (case N => k_asm); (case X => k_asm); (case T => k_asm); (case hf => exact rfl); (case hk => exact rfl); (case hd => omega); (case hu => omega); (case pre => exact ⟨⟨_, News.isList (by assumption) (by (repeat' (first | exact List.Mem.head _ | apply List.Mem.tail))), hib⟩, by rw [List.length_take]; omega⟩); k_whole); (intro r' h' tk' F' N' e' p'; subst p'); (try dsimp only)))
    k_unmd
    k_fold
    k_steps
    k_with_none
    rename Fr _ _ _ _ => F9
    rename News _ _ _ _ => N9
    refine InvEndN.intro F9 N9 ⟨rfl, fun y hy => ?_⟩ rfl (fun p hp => ?_) fun p hp => ?_
    · (try dsimp only)
      repeat' split
      all_goals first
        | (rename_i z; rw [z]; first | exact hm3.symm | exact hm2.symm | exact hm1.symm)
        | exact absurd (List.mem_singleton.mpr (by assumption)) hy
        | exact hmm y hy
    · have := lft hp
      (repeat' (first | exact List.Mem.head _ | apply List.Mem.tail))
      assumption
    · have := hNY ▸ List.mem_append_right news₁ hp
      (repeat' (first | exact List.Mem.head _ | apply List.Mem.tail))
      assumption
  · intro m₁ news₁ h₁ tk₁ hadr hJ F7 N7
    obtain ⟨rfl, hmm⟩ := hJ
    intro hle
    exact k _ _ m₁ F7 N7 hmm hle
end Mine
end

section
open PySem PySem.W PyProof.Rows PySem.Calls
namespace Mine
local macro_rules | `(tactic| walk_at "eval ListComp") => `(tactic| k_extra "eval ListComp")
local macro_rules | `(tactic| walk_at "exec Return some") => `(tactic| k_extra "exec Return some")
local macro_rules | `(tactic| walk_at "exec Try") => `(tactic| k_extra "exec Try")
local macro_rules | `(tactic| walk_at "subscriptTail") => `(tactic| k_extra "subscriptTail")
local macro_rules | `(tactic| walk_at "subscriptTail Name UnaryOp ref int") => `(tactic| k_extra "subscriptTail Name UnaryOp ref int")
local macro_rules | `(tactic| walk_at "subscriptTail Name Slice ref ref") => `(tactic| k_extra "subscriptTail Name Slice ref ref")
local macro_rules | `(tactic| walk_at "subscriptTail Name Name ref int") => `(tactic| k_extra "subscriptTail Name Name ref int")
local macro_rules | `(tactic| walk_at "subscriptTail Name BinOp ref int") => `(tactic| k_extra "subscriptTail Name BinOp ref int")
local macro_rules | `(tactic| walk_at "call ref") => `(tactic| k_extra "call ref")
local macro_rules | `(tactic| walk_at "call builtin:sum") => `(tactic| k_extra "call builtin:sum")
local macro_rules | `(tactic| walk_at "call builtin:list.append") => `(tactic| k_extra "call builtin:list.append")
local macro_rules | `(tactic| walk_at "exec While") => `(tactic| k_extra "exec While")
local macro_rules | `(tactic| walk_at "exec While Compare cons nil") => `(tactic| k_extra "exec While Compare cons nil")
local macro_rules | `(tactic| walk_at "exec For") => `(tactic| k_extra "exec For")
local macro_rules | `(tactic| walk_at "exec Assign cons ListComp") => `(tactic| k_extra "exec Assign cons ListComp")
local macro_rules | `(tactic| walk_at "compareOp Eq ref ref") => `(tactic| k_extra "compareOp Eq ref ref")
local macro_rules | `(tactic| walk_at "compareOp NotEq ref ref") => `(tactic| k_extra "compareOp NotEq ref ref")
local macro_rules | `(tactic| walk_at "exec For Name Call cons nil") => `(tactic| k_extra "exec For Name Call cons nil")
local macro_rules | `(tactic| walk_at "exec For Name Name cons nil") => `(tactic| k_extra "exec For Name Name cons nil")
local macro_rules | `(tactic| walk_at "binaryOp Mod int int") => `(tactic| k_extra "binaryOp Mod int int")
local macro_rules | `(tactic| walk_at "subscriptTail Name Call ref int") => `(tactic| k_extra "subscriptTail Name Call ref int")
local macro_rules | `(tactic| walk_at "call ref") => `(tactic| (k_here; k_dflt (refine' Ctr.use c_or ?B ?F ?N ?X ?T ?hf ?hk ?hd ?hu ?pre ?_; (case B => k_asm); (case F => k_asm); (case N => k_asm); (case X => k_asm); (case T => k_asm); (case hf => exact rfl); (case hk => exact rfl); (case hd => omega); (case hu => omega); (case pre => trivial); k_whole); (intro r' h' tk' F' N' e' p'); (obtain ⟨t', q'⟩ := p'; subst q'); (try dsimp only)))
local macro_rules | `(tactic| walk_at "call ref") => `(tactic| (k_here; k_dflt (refine' Ctr.use c_and ?B ?F ?N ?X ?T ?hf ?hk ?hd ?hu ?pre ?_; (case B => k_asm); (case F => k_asm); (case N => k_asm); (case X => k_asm); (case T => k_asm); (case hf => exact rfl); (case hk => exact rfl); (case hd => omega); (case hu => omega); (case pre => trivial); k_whole); (intro r' h' tk' F' N' e' p'); (obtain ⟨t', q'⟩ := p'; subst q'); (try dsimp only)))
local macro_rules | `(tactic| walk_at "call ref") => `(tactic| (k_here; k_dflt (refine' Ctr.use c_inv ?B ?F ?N ?X ?T ?hf ?hk ?hd ?hu ?pre ?_; (case B => k_asm); (case F => k_asm); (case N => k_asm); (case X => k_asm); (case T => k_asm); (case hf => exact rfl); (case hk => exact rfl); (case hd => omega); (case hu => omega); (case pre => trivial); k_whole); (intro r' h' tk' F' N' e' p'); (obtain ⟨t', q'⟩ := p'; subst q'); (try dsimp only)))
local macro_rules | `(tactic| walk_at "call ref") => `(tactic| (k_here; k_dflt (refine' Ctr.use c_lshift ?B ?F ?N ?X ?T ?hf ?hk ?hd ?hu ?pre ?_; (case B => k_asm); (case F => k_asm); (case N => k_asm); (case X => k_asm); (case T => k_asm); (case hf => exact rfl); (case hk => exact rfl); (case hd => omega); (case hu => omega); (case pre => first | k_extra "shift" | (refine ⟨?_, ?_, ?_⟩ <;> first | assumption | decide | omega)); k_whole); (intro r' h' tk' F' N' e' p'); (obtain ⟨t', q'⟩ := p'; subst q'); (try dsimp only)))
theorem three {g h : Heap} {L : Addr} {a b c : Addr × Obj} {NX : List (Addr × Obj)} (N : News g L h (a :: b :: c :: NX)) : ∃ NX1, News g L h NX1 ∧ (∀ p ∈ NX, p ∈ NX1) ∧ b ∈ NX1 ∧ c ∈ NX1 :=
  ⟨_, N, fun _ hp => .tail _ (.tail _ (.tail _ hp)), .tail _ (.head _), .tail _ (.tail _ (.head _))⟩
theorem allLt_mem {d : Addr} : ∀ {l : List (Addr × Obj)}, AllLt d l → ∀ p ∈ l, p.1 < d
  | [], _, _, h => nomatch h
  | _ :: _, x, p, h => by
    rcases List.mem_cons.mp h with rfl | h
    · exact x.1
    · exact allLt_mem x.2 p h
theorem immL_one {NX : List (Addr × Obj)} {l : Addr} {v : Value} (h : (l, W.listOf #[v] 0) ∈ NX) : ImmL NX l [v] := ⟨0, h⟩
set_option maxRecDepth 100000 in
set_option maxHeartbeats 4000000 in
theorem law_s8 {w : World} {g h : Heap} {L : Addr} {m : Str → Option Value} {NX : List (Addr × Obj)} {loose : List Str} {mean : ExcName → Option Value} {mg mb : Str → Option Value} {E : Value → Shared → Prop} {Q : Flow → Shared → Prop}
    {dp un tk : Nat} {gd : Option (List Code)} {base : Heap} {gens : Array GenState} {drawn : Drawn} {os : OsState} {rest : List Stmt}
    (B : Below (arnd dp un gd []) base [] g) (X : (hd.heap_39 w.params).In g) (T : Top hd.view_39 loose mean mg mb g) (hd : dp + 50 < recursionLimit) (hu : un + 400 < cLine) (F : Fr g L h m) (N : News g L h NX)
    (hN : ImmC NX (L + 1 + 1 + 1 + 1) none) (hT : ImmC NX (L + 1 + 1 + 1 + 1 + 1) none)
    (k : ∀ h' tk' lw hw NX', Fr g L h' m → News g L h' NX' → (∀ p ∈ NX, p.1 ≠ L + 1 + 1 + 1 + 1 → p.1 ≠ L + 1 + 1 + 1 + 1 + 1 → p ∈ NX') → ImmC NX' (L + 1 + 1 + 1 + 1) (some (.ref lw)) → ImmC NX' (L + 1 + 1 + 1 + 1 + 1) (some (.ref hw)) →
      lw ≠ hw → (∀ p ∈ NX, p.1 ≠ lw ∧ p.1 ≠ hw) → (∃ t, ImmL NX' lw [.int 0 t]) → (∃ t, ImmL NX' hw [.int (Builtin.bitNot 0) t]) → tk ≤ tk' →
      wpAny (model PySem.Challenge.rw_rw0006_01.row.prog w) (arnd (dp + 1) (un + 3) gd [lawEnv L]) (execs rest (lawEnv L)) Q (fun e s' => wpAny (model PySem.Challenge.rw_rw0006_01.row.prog w) (arnd (dp + 1) (un + 3) gd [lawEnv L]) (leaving (lawEnv L) e) (fun _ s'' => E e s'') (fun e' s'' => E e' s'') s') ⟨h', gens, drawn, tk', os⟩) :
    wpAny (model PySem.Challenge.rw_rw0006_01.row.prog w) (arnd (dp + 1) (un + 3) gd [lawEnv L]) (execs (lawSt 8 :: rest) (lawEnv L)) Q (fun e s' => wpAny (model PySem.Challenge.rw_rw0006_01.row.prog w) (arnd (dp + 1) (un + 3) gd [lawEnv L]) (leaving (lawEnv L) e) (fun _ s'' => E e s'') (fun e' s'' => E e' s'') s') ⟨h, gens, drawn, tk, os⟩ := by
  k_with_none
  w_top off
  revert X
  k_fill
  intro X
  have KX := X
  show wpAny _ (arnd _ _ _ [(envX _ ⟨_, _, _, _, _⟩ _ _ _ _)]) (execs (Stmt.Assign _ _ _ :: _) (envX _ ⟨_, _, _, _, _⟩ _ _ _ _)) _ (fun e s' => wpAny _ (arnd _ _ _ [(envX _ ⟨_, _, _, _, _⟩ _ _ _ _)]) (leaving (envX _ ⟨_, _, _, _, _⟩ _ _ _ _) e) _ _ s') _
  (k_with "storeName" => refine Hold.out ?_)
  refine execsT ?_
  k_steps
  k_with_none
  refine Hold.hold ?_
  rename Fr _ _ _ _ => F1
  rename News _ _ _ _ => N1
  rename ((_ : Addr) < _ ∧ _ < _ ∧ AllLt _ NX) => l2
  rename ((_ : Addr) < _ ∧ AllLt _ NX) => l1
  rename (∀ p ∈ NX, p.1 < _) => l0
  obtain ⟨NX1, N1', k1, mb1, mc1⟩ := three N1
  clear N1
  have N1 := N1'
  have hN1 := hN.mono k1
  have hT1 := hT.mono k1
  have a1 := immL_one mc1
  have a2 := immL_one mb1
  refine storeCell F1 N1 (c := L + 1 + 1 + 1 + 1) (by with_unfolding_all rfl) hN1 ?_
  intro h2 NX2 F2 N2 k2 c2 _
  have hT2 := hT1.but (Nat.ne_of_gt (Nat.lt_succ_self _)) k2
  (k_with "storeName" => refine Hold.out ?_)
  k_unmd
  (try k_fold)
  k_steps
  k_with_none
  refine Hold.hold ?_
  refine storeCell F2 N2 (c := L + 1 + 1 + 1 + 1 + 1) (by with_unfolding_all rfl) hT2 ?_
  intro h3 NX3 F3 N3 k3 c3 _
  k_unmd
  (try k_fold)
  k_steps
  have b1 := (a1.but (a1.ne_cell hN1 N1) k2)
  have b2 := (a2.but (a2.ne_cell hN1 N1) k2)
  have d1 := b1.but (b1.ne_cell hT2 N2) k3
  have d2 := b2.but (b2.ne_cell hT2 N2) k3
  (try dsimp only)
  refine k _ _ _ _ NX3 F3 N3 (fun p hp n1 n2 => k3 p (k2 p (k1 p hp) n1) n2) (c2.but (Nat.ne_of_lt (Nat.lt_succ_self _)) k3) c3 (Nat.ne_of_lt l1.1) (fun p hp => ⟨Nat.ne_of_lt (l0 p hp), Nat.ne_of_lt (allLt_mem l1.2 p hp)⟩) ⟨_, d1⟩ ⟨_, d2⟩ ?_; (clear k; dsimp only at *; omega)
end Mine
end

section
open PySem PySem.W PyProof.Rows PySem.Calls
namespace Mine
local macro_rules | `(tactic| walk_at "eval ListComp") => `(tactic| k_extra "eval ListComp")
local macro_rules | `(tactic| walk_at "exec Return some") => `(tactic| k_extra "exec Return some")
local macro_rules | `(tactic| walk_at "exec Try") => `(tactic| k_extra "exec Try")
local macro_rules | `(tactic| walk_at "subscriptTail") => `(tactic| k_extra "subscriptTail")
local macro_rules | `(tactic| walk_at "subscriptTail Name UnaryOp ref int") => `(tactic| k_extra "subscriptTail Name UnaryOp ref int")
local macro_rules | `(tactic| walk_at "subscriptTail Name Slice ref ref") => `(tactic| k_extra "subscriptTail Name Slice ref ref")
local macro_rules | `(tactic| walk_at "subscriptTail Name Name ref int") => `(tactic| k_extra "subscriptTail Name Name ref int")
local macro_rules | `(tactic| walk_at "subscriptTail Name BinOp ref int") => `(tactic| k_extra "subscriptTail Name BinOp ref int")
local macro_rules | `(tactic| walk_at "call ref") => `(tactic| k_extra "call ref")
local macro_rules | `(tactic| walk_at "call builtin:sum") => `(tactic| k_extra "call builtin:sum")
local macro_rules | `(tactic| walk_at "call builtin:list.append") => `(tactic| k_extra "call builtin:list.append")
local macro_rules | `(tactic| walk_at "exec While") => `(tactic| k_extra "exec While")
local macro_rules | `(tactic| walk_at "exec While Compare cons nil") => `(tactic| k_extra "exec While Compare cons nil")
local macro_rules | `(tactic| walk_at "exec For") => `(tactic| k_extra "exec For")
local macro_rules | `(tactic| walk_at "exec Assign cons ListComp") => `(tactic| k_extra "exec Assign cons ListComp")
local macro_rules | `(tactic| walk_at "compareOp Eq ref ref") => `(tactic| k_extra "compareOp Eq ref ref")
local macro_rules | `(tactic| walk_at "compareOp NotEq ref ref") => `(tactic| k_extra "compareOp NotEq ref ref")
local macro_rules | `(tactic| walk_at "exec For Name Call cons nil") => `(tactic| k_extra "exec For Name Call cons nil")
local macro_rules | `(tactic| walk_at "exec For Name Name cons nil") => `(tactic| k_extra "exec For Name Name cons nil")
local macro_rules | `(tactic| walk_at "binaryOp Mod int int") => `(tactic| k_extra "binaryOp Mod int int")
local macro_rules | `(tactic| walk_at "subscriptTail Name Call ref int") => `(tactic| k_extra "subscriptTail Name Call ref int")
def LowJ (NX : List (Addr × Obj)) (m : Str → Option Value) (lw hw : Addr) (D H : Nat → Int) (i : Nat) (m₁ : Str → Option Value) (nx : List (Addr × Obj)) : Prop :=
  ∃ lvs hvs, ImmL nx lw lvs ∧ IntsAre lvs ((List.range (i + 1)).map D) ∧ ImmL nx hw hvs ∧ IntsAre hvs ((List.range (i + 1)).map H) ∧ (∀ p ∈ NX, p.1 ≠ lw → p.1 ≠ hw → p ∈ nx) ∧ ∀ y, y ≠ Str.ofString "spot" → m₁ y = m y
theorem range_last (D : Nat → Int) (i : Nat) : ((List.range (i + 1)).map D)[((List.range (i + 1)).map D).length - 1]? = some (D i) := by
  simp
theorem range_snoc (D : Nat → Int) (i : Nat) : (List.range (i + 1 + 1)).map D = (List.range (i + 1)).map D ++ [D (i + 1)] := by
  rw [List.range_succ, List.map_append]; rfl
set_option maxRecDepth 100000 in
set_option maxHeartbeats 4000000 in
theorem law_s9 {w : World} {g h : Heap} {L : Addr} {m : Str → Option Value} {NX : List (Addr × Obj)} {loose : List Str} {mean : ExcName → Option Value} {mg mb : Str → Option Value} {E : Value → Shared → Prop} {Q : Flow → Shared → Prop}
    {dp un tk : Nat} {gd : Option (List Code)} {base : Heap} {gens : Array GenState} {drawn : Drawn} {os : OsState} {rest : List Stmt}
    (B : Below (arnd dp un gd []) base [] g) (X : (hd.heap_39 w.params).In g) (T : Top hd.view_39 loose mean mg mb g) (hd : dp + 50 < recursionLimit) (hu : un + 400 < cLine) (F : Fr g L h m) (N : News g L h NX) {fo mk lw hw : Addr} {fs ms : List Int} {D H : Nat → Int}
    (hm1 : m (Str.ofString "found") = some (.ref fo)) (hm2 : m (Str.ofString "masks") = some (.ref mk)) (hF : ImmT NX fo fs) (hfl : fs.length = 8) (hM : ImmT NX mk ms) (hml : ms.length = 4) (hfs : ∀ x ∈ fs, 0 ≤ x ∧ x < 4)
    (hN : ImmC NX (L + 1 + 1 + 1 + 1) (some (.ref lw))) (hT : ImmC NX (L + 1 + 1 + 1 + 1 + 1) (some (.ref hw))) (hlh : lw ≠ hw) (hne : (fo ≠ lw ∧ fo ≠ hw) ∧ mk ≠ lw ∧ mk ≠ hw)
    (hl0 : ∃ t, ImmL NX lw [.int (D 0) t]) (hh0 : ∃ t, ImmL NX hw [.int (H 0) t])
    (hDs : ∀ i, i < 8 → D (i + 1) = Builtin.bitAnd (Builtin.bitOr (D i * 2 ^ (1 : Int).toNat) 1) (ms.getD (fs.getD i 0).toNat 0))
    (hHs : ∀ i, i < 8 → H (i + 1) = Builtin.bitOr (H i * 2 ^ (1 : Int).toNat) (Builtin.bitNot (ms.getD (fs.getD i 0).toNat 0)))
    (hDb : ∀ i, i ≤ 8 → (D i).natAbs < 2 ^ 64) (hHb : ∀ i, i ≤ 8 → (H i).natAbs < 2 ^ 64)
    (k : ∀ h' tk' m' NX', Fr g L h' m' → (∀ y, y ≠ Str.ofString "spot" → m' y = m y) → News g L h' NX' → (∀ p ∈ NX, p.1 ≠ lw → p.1 ≠ hw → p ∈ NX') → ImmT NX' lw ((List.range 9).map D) → ImmT NX' hw ((List.range 9).map H) →
      wpAny (model PySem.Challenge.rw_rw0006_01.row.prog w) (arnd (dp + 1) (un + 3) gd [lawEnv L]) (execs rest (lawEnv L)) Q (fun e s' => wpAny (model PySem.Challenge.rw_rw0006_01.row.prog w) (arnd (dp + 1) (un + 3) gd [lawEnv L]) (leaving (lawEnv L) e) (fun _ s'' => E e s'') (fun e' s'' => E e' s'') s') ⟨h', gens, drawn, tk', os⟩) :
    wpAny (model PySem.Challenge.rw_rw0006_01.row.prog w) (arnd (dp + 1) (un + 3) gd [lawEnv L]) (execs (lawSt 9 :: rest) (lawEnv L)) Q (fun e s' => wpAny (model PySem.Challenge.rw_rw0006_01.row.prog w) (arnd (dp + 1) (un + 3) gd [lawEnv L]) (leaving (lawEnv L) e) (fun _ s'' => E e s'') (fun e' s'' => E e' s'') s') ⟨h, gens, drawn, tk, os⟩ := by
  k_with_none
  w_top off
  revert X
  k_fill
  intro X
  have KX := X
  show wpAny _ (arnd _ _ _ [(envX _ ⟨_, _, _, _, _⟩ _ _ _ _)]) (execs (Stmt.For _ _ _ _ _ :: _) (envX _ ⟨_, _, _, _, _⟩ _ _ _ _)) _ (fun e s' => wpAny _ (arnd _ _ _ [(envX _ ⟨_, _, _, _, _⟩ _ _ _ _)]) (leaving (envX _ ⟨_, _, _, _, _⟩ _ _ _ _) e) _ _ s') _
  have hFF := hF
  obtain ⟨fvs, nF, dF, sF, mF, hi⟩ := hF
  have hvl := hi.length
  have F0 := F.known0 hm1
  have N1 := hdN N mF
  (k_with "exec For Name Name cons nil" => (k_here; (rename Fr _ _ _ _ => lF'); (with_unfolding_all refine' For_invVF lF' ?k1 ?k2 ?_; (case k1 => exact rfl); (case k2 => exact rfl); k_whole)))
  (k_with "pyIter ref" => refine Hold.out ?_)
  clear F
  k_steps
  k_with_none
  refine Hold.hold ?_
  (try dsimp only)
  have hcl : L + 1 + 1 + 1 + 1 ≠ lw ∧ L + 1 + 1 + 1 + 1 ≠ hw := ⟨fun z => (hl0.elim fun t q => q.ne_cell hN N) z.symm, fun z => (hh0.elim fun t q => q.ne_cell hN N) z.symm⟩
  have hch : L + 1 + 1 + 1 + 1 + 1 ≠ lw ∧ L + 1 + 1 + 1 + 1 + 1 ≠ hw := ⟨fun z => (hl0.elim fun t q => q.ne_cell hT N) z.symm, fun z => (hh0.elim fun t q => q.ne_cell hT N) z.symm⟩
  have hfoL : fo ≠ L := (N _ mF).2.1
  have hsz : fvs.toArray.size = 8 := by simp; omega
  refine iterLst (l := fo) (items := fvs.toArray) (news := NX) (LowJ NX m lw hw D H) rfl (News.isList N1 (.head _)) hfoL (by assumption) N ?_ ?_ ?_
  · obtain ⟨tl, hl0⟩ := hl0
    obtain ⟨th, hh0⟩ := hh0
    refine ⟨_, _, hl0, .cons _ _ .nil, hh0, .cons _ _ .nil, fun p hp _ _ => hp, fun y hy => ?_⟩
    (try dsimp only)
    split
    · rename_i z; rw [z]; exact hm1.symm
    · rfl
  · intro i v m₁ news₁ h₁ tk₁ own hP hadr hown hJ F2 N2
    obtain ⟨lvs, hvs, hl, hIl, hh, hIh, hkeep, hmm⟩ := hJ
    obtain ⟨t, hlt, rfl⟩ := src_int hi hP
    have hx := hfs fs[i] (List.getElem_mem hlt)
    have k0 : ∀ p ∈ NX, p.1 ≠ lw → p.1 ≠ hw → p ∈ news₁ ++ own := fun p hp a b => List.mem_append_left _ (hkeep p hp a b)
    have q1 := (hM.but2 hne.2.1 hne.2.2 k0)
    have q2 := (hN.but2 hcl.1 hcl.2 k0)
    have q3 := (hT.but2 hch.1 hch.2 k0)
    have q4 := hl.mono (NX' := news₁ ++ own) fun p hp => List.mem_append_left _ hp
    have q5 := hh.mono (NX' := news₁ ++ own) fun p hp => List.mem_append_left _ hp
    have hol : ∀ p ∈ own, p.1 ≠ lw := hown lw ((hl0.elim fun t q => q.elim fun n q => List.mem_map.mpr ⟨_, q, rfl⟩)) (Ne.symm hne.1.1)
    have hoh : ∀ p ∈ own, p.1 ≠ hw := hown hw ((hh0.elim fun t q => q.elim fun n q => List.mem_map.mpr ⟨_, q, rfl⟩)) (Ne.symm hne.1.2)
    have F3 := F2.known0 (n := Str.ofString "masks") (w := .ref mk) (by (try dsimp only); (repeat rw [if_neg (by decide)]); rw [hmm _ (by decide)]; exact hm2)
    have hmm' : ∀ y, y ≠ Str.ofString "spot" → (if y = Str.ofString "masks" then some (Value.ref mk) else if y = Str.ofString "spot" then some (Value.int fs[i] t) else m₁ y) = m y := fun y hy => by
      split
      · rename_i z; rw [z]; exact hm2.symm
      · first | exact hmm y hy | (rw [if_neg hy]; exact hmm y hy)
    have hi8 : i < 8 := by omega
    have hfe : fs.getD i 0 = fs[i] := by simp [List.getD_eq_getElem?_getD, hlt]
    have hD1 := hDs i hi8
    have hH1 := hHs i hi8
    rw [hfe] at hD1 hH1
    have hDb1 := hDb i (by omega)
    have hHb1 := hHb i (by omega)
    have hll := hIl.length
    have hhl := hIh.length
    simp only [List.length_map, List.length_range] at hll hhl
    clear F2 N1
    generalize hNY : news₁ ++ own = NY at *
    obtain ⟨mvs, nm, dm, sm, mm, hmi⟩ := id q1
    obtain ⟨oN, mN, hNd⟩ := id q2
    obtain ⟨oT, mT, hTd⟩ := id q3
    obtain ⟨nl, ml⟩ := id q4
    obtain ⟨nh, mh⟩ := id q5
    have N3 := hdN (hdN (hdN (hdN (hdN N2 mm) (.tail _ mN)) (.tail _ (.tail _ mT))) (.tail _ (.tail _ (.tail _ mh)))) (.tail _ (.tail _ (.tail _ (.tail _ ml))))
    have hml' := hmi.length
    (k_with "call builtin:list.append" => refine Hold.out ?_)
    (k_with "subscriptTail Name UnaryOp ref int" => k_dflt (first | refine item_last (News.isList (by assumption) (.head _)) hIl (by simp) (range_last D i) (by simp; omega) (by with_unfolding_all rfl) ?_ | refine item_last (News.isList (by assumption) (.tail _ (.head _))) hIh (by simp) (range_last H i) (by simp; omega) (by with_unfolding_all rfl) ?_))
    (k_with "call ref" => (k_here; k_dflt (refine' Ctr.use c_ones ?B ?F ?N ?X ?T ?hf ?hk ?hd ?hu ?pre ?_; (case B => k_asm); (case F => k_asm); (case N => k_asm); (case X => k_asm); (case T => k_asm); (case hf => exact rfl); (case hk => exact rfl); (case hd => omega); (case hu => omega); (case pre => exact hDb1); k_whole); (intro r' h' tk' F' N' e' p'; obtain ⟨t', q'⟩ := p'; subst q'); (try dsimp only)))
    clear N2
    k_unmd
    (try k_fold)
    k_steps
    k_with_none
    refine Hold.hold ?_
    rename Fr _ _ _ _ => F4
    rename News _ _ _ _ => N4
    have N5 := subN N4 (NX' := NY) fun p hp => .tail _ (.tail _ (.tail _ (.tail _ (.tail _ hp))))
    clear N4
    refine appendT F4 N5 q4 (by omega) ?_
    intro h5 NX5 F5 N6 k5 l5 _
    clear F4 N5
    have r1 := q1.but hne.2.1 k5
    have r2 := q2.but hcl.1 k5
    have r3 := q3.but hch.1 k5
    have r5 := q5.but (Ne.symm hlh) k5
    obtain ⟨mvs2, nm2, dm2, sm2, mm2, hmi2⟩ := id r1
    obtain ⟨oT2, mT2, hTd2⟩ := id r3
    obtain ⟨nh2, mh2⟩ := id r5
    have N7 := hdN (hdN (hdN N6 mm2) (.tail _ mT2)) (.tail _ (.tail _ mh2))
    have hml2 := hmi2.length
    clear N6
    (k_with "call builtin:list.append" => refine Hold.out ?_)
    (k_with "subscriptTail Name UnaryOp ref int" => k_dflt (refine item_last (News.isList (by assumption) (.head _)) hIh (by simp) (range_last H i) (by simp; omega) (by with_unfolding_all rfl) ?_))
    (k_with "call ref" => (k_here; k_dflt (refine' Ctr.use c_noughts ?B ?F ?N ?X ?T ?hf ?hk ?hd ?hu ?pre ?_; (case B => k_asm); (case F => k_asm); (case N => k_asm); (case X => k_asm); (case T => k_asm); (case hf => exact rfl); (case hk => exact rfl); (case hd => omega); (case hu => omega); (case pre => exact hHb1); k_whole); (intro r' h' tk' F' N' e' p'; obtain ⟨t', q'⟩ := p'; subst q'); (try dsimp only)))
    k_unmd
    (try k_fold)
    k_steps
    k_with_none
    refine Hold.hold ?_
    rename Fr _ _ _ _ => F8
    rename News _ _ _ _ => N8
    have N9 := subN N8 (NX' := NX5) fun p hp => .tail _ (.tail _ (.tail _ hp))
    clear N8
    refine appendT F8 N9 r5 (by omega) ?_
    intro h6 NX6 F6 N10 k6 l6 _
    clear F8 N9 F5
    k_unmd
    (try k_fold)
    k_steps
    have kk : ∀ p ∈ NY, p.1 ≠ lw → p.1 ≠ hw → p ∈ NX6 := fun p hp a b => k6 p (k5 p hp a) b
    have lw6 := l5.but hlh k6
    have kn : ∀ p ∈ news₁, p ∈ NY := fun p hp => hNY ▸ List.mem_append_left _ hp
    have ko : ∀ p ∈ own, p ∈ NY := fun p hp => hNY ▸ List.mem_append_right _ hp
    have inl : lw ∈ NX.map (·.1) := hl0.elim fun t q => q.elim fun n q => List.mem_map.mpr ⟨_, q, rfl⟩
    have inh : hw ∈ NX.map (·.1) := hh0.elim fun t q => q.elim fun n q => List.mem_map.mpr ⟨_, q, rfl⟩
    obtain ⟨nx, e1, e2, e3⟩ := turn_end N10 (NX.map (·.1)) (fun a ha => by
      rw [← hadr] at ha
      obtain ⟨p, hp, rfl⟩ := List.mem_map.mp ha
      by_cases z1 : p.1 = lw
      · rw [z1]; exact lw6.elim fun n q => ⟨_, q⟩
      by_cases z2 : p.1 = hw
      · rw [z2]; exact l6.elim fun n q => ⟨_, q⟩
      exact ⟨p.2, kk p (kn p hp) z1 z2⟩)
    have lwx := lw6.elim fun n q => (⟨n, e3 _ q inl⟩ : ImmL nx lw _)
    have hwx := l6.elim fun n q => (⟨n, e3 _ q inh⟩ : ImmL nx hw _)
    refine InvEndN.intro F6 N10 (nx := nx) ⟨_, _, lwx, ?_, hwx, ?_, fun p hp a b => e3 p (kk p (k0 p hp a b) a b) (List.mem_map.mpr ⟨p, hp, rfl⟩), hmm'⟩ e1 e2 fun p hp => kk p (ko p hp) (hol p hp) (hoh p hp)
    · rw [range_snoc, hD1]; exact hIl.append (.cons _ _ .nil)
    · rw [range_snoc, hH1]; exact hIh.append (.cons _ _ .nil)
  · intro m₁ news₁ h₁ tk₁ hadr hJ F2 N2
    rw [hsz] at hJ
    obtain ⟨lvs, hvs, ⟨nl, hl⟩, hIl, ⟨nh, hh⟩, hIh, hkeep, hmm⟩ := hJ
    exact k _ _ m₁ news₁ F2 hmm N2 hkeep ⟨lvs, nl, none, #[], hl, hIl⟩ ⟨hvs, nh, none, #[], hh, hIh⟩
end Mine
end

section
open PySem PySem.W PyProof.Rows PySem.Calls
namespace Mine
local macro_rules | `(tactic| walk_at "eval ListComp") => `(tactic| k_extra "eval ListComp")
local macro_rules | `(tactic| walk_at "exec Return some") => `(tactic| k_extra "exec Return some")
local macro_rules | `(tactic| walk_at "exec Try") => `(tactic| k_extra "exec Try")
local macro_rules | `(tactic| walk_at "subscriptTail") => `(tactic| k_extra "subscriptTail")
local macro_rules | `(tactic| walk_at "subscriptTail Name UnaryOp ref int") => `(tactic| k_extra "subscriptTail Name UnaryOp ref int")
local macro_rules | `(tactic| walk_at "subscriptTail Name Slice ref ref") => `(tactic| k_extra "subscriptTail Name Slice ref ref")
local macro_rules | `(tactic| walk_at "subscriptTail Name Name ref int") => `(tactic| k_extra "subscriptTail Name Name ref int")
local macro_rules | `(tactic| walk_at "subscriptTail Name BinOp ref int") => `(tactic| k_extra "subscriptTail Name BinOp ref int")
local macro_rules | `(tactic| walk_at "call ref") => `(tactic| k_extra "call ref")
local macro_rules | `(tactic| walk_at "call builtin:sum") => `(tactic| k_extra "call builtin:sum")
local macro_rules | `(tactic| walk_at "call builtin:list.append") => `(tactic| k_extra "call builtin:list.append")
local macro_rules | `(tactic| walk_at "exec While") => `(tactic| k_extra "exec While")
local macro_rules | `(tactic| walk_at "exec While Compare cons nil") => `(tactic| k_extra "exec While Compare cons nil")
local macro_rules | `(tactic| walk_at "exec For") => `(tactic| k_extra "exec For")
local macro_rules | `(tactic| walk_at "exec Assign cons ListComp") => `(tactic| k_extra "exec Assign cons ListComp")
local macro_rules | `(tactic| walk_at "compareOp Eq ref ref") => `(tactic| k_extra "compareOp Eq ref ref")
local macro_rules | `(tactic| walk_at "compareOp NotEq ref ref") => `(tactic| k_extra "compareOp NotEq ref ref")
local macro_rules | `(tactic| walk_at "exec For Name Call cons nil") => `(tactic| k_extra "exec For Name Call cons nil")
local macro_rules | `(tactic| walk_at "exec For Name Name cons nil") => `(tactic| k_extra "exec For Name Name cons nil")
local macro_rules | `(tactic| walk_at "binaryOp Mod int int") => `(tactic| k_extra "binaryOp Mod int int")
local macro_rules | `(tactic| walk_at "subscriptTail Name Call ref int") => `(tactic| k_extra "subscriptTail Name Call ref int")
local macro_rules | `(tactic| walk_at "call ref") => `(tactic| (k_here; k_dflt (refine' Ctr.use c_or ?B ?F ?N ?X ?T ?hf ?hk ?hd ?hu ?pre ?_; (case B => k_asm); (case F => k_asm); (case N => k_asm); (case X => k_asm); (case T => k_asm); (case hf => exact rfl); (case hk => exact rfl); (case hd => omega); (case hu => omega); (case pre => trivial); k_whole); (intro r' h' tk' F' N' e' p'); (obtain ⟨t', q'⟩ := p'; subst q'); (try dsimp only)))
local macro_rules | `(tactic| walk_at "call ref") => `(tactic| (k_here; k_dflt (refine' Ctr.use c_and ?B ?F ?N ?X ?T ?hf ?hk ?hd ?hu ?pre ?_; (case B => k_asm); (case F => k_asm); (case N => k_asm); (case X => k_asm); (case T => k_asm); (case hf => exact rfl); (case hk => exact rfl); (case hd => omega); (case hu => omega); (case pre => trivial); k_whole); (intro r' h' tk' F' N' e' p'); (obtain ⟨t', q'⟩ := p'; subst q'); (try dsimp only)))
local macro_rules | `(tactic| walk_at "call ref") => `(tactic| (k_here; k_dflt (refine' Ctr.use c_inv ?B ?F ?N ?X ?T ?hf ?hk ?hd ?hu ?pre ?_; (case B => k_asm); (case F => k_asm); (case N => k_asm); (case X => k_asm); (case T => k_asm); (case hf => exact rfl); (case hk => exact rfl); (case hd => omega); (case hu => omega); (case pre => trivial); k_whole); (intro r' h' tk' F' N' e' p'); (obtain ⟨t', q'⟩ := p'; subst q'); (try dsimp only)))
local macro_rules | `(tactic| walk_at "call ref") => `(tactic| (k_here; k_dflt (refine' Ctr.use c_lshift ?B ?F ?N ?X ?T ?hf ?hk ?hd ?hu ?pre ?_; (case B => k_asm); (case F => k_asm); (case N => k_asm); (case X => k_asm); (case T => k_asm); (case hf => exact rfl); (case hk => exact rfl); (case hd => omega); (case hu => omega); (case pre => first | k_extra "shift" | (refine ⟨?_, ?_, ?_⟩ <;> first | assumption | decide | omega)); k_whole); (intro r' h' tk' F' N' e' p'); (obtain ⟨t', q'⟩ := p'; subst q'); (try dsimp only)))
set_option maxRecDepth 100000 in
set_option maxHeartbeats 4000000 in
theorem law_s10 {w : World} {g h : Heap} {L : Addr} {m : Str → Option Value} {NX : List (Addr × Obj)} {loose : List Str} {mean : ExcName → Option Value} {mg mb : Str → Option Value} {E : Value → Shared → Prop} {Q : Flow → Shared → Prop}
    {dp un tk : Nat} {gd : Option (List Code)} {base : Heap} {gens : Array GenState} {drawn : Drawn} {os : OsState} {rest : List Stmt}
    (B : Below (arnd dp un gd []) base [] g) (X : (hd.heap_39 w.params).In g) (T : Top hd.view_39 loose mean mg mb g) (hd : dp + 50 < recursionLimit) (hu : un + 400 < cLine) (F : Fr g L h m) (N : News g L h NX) {lw hw : Addr} {ls hs : List Int}
    (hN : ImmC NX (L + 1 + 1 + 1 + 1) (some (.ref lw))) (hR : ImmT NX lw ls) (hlen : ls.length = 9) (hT : ImmC NX (L + 1 + 1 + 1 + 1 + 1) (some (.ref hw))) (hL : ImmT NX hw hs) (hll : hs.length = 9)
    (k : ∀ h' tk' D NX', Fr g L h' (fun y => if y = Str.ofString "turned" then some (.ref D) else m y) → News g L h' NX' → (∀ p ∈ NX, p ∈ NX') → ImmT NX' D ((List.range 9).map fun i => Builtin.bitNot (hs.getD i 0)) → tk ≤ tk' →
      wpAny (model PySem.Challenge.rw_rw0006_01.row.prog w) (arnd (dp + 1) (un + 3) gd [lawEnv L]) (execs rest (lawEnv L)) Q (fun e s' => wpAny (model PySem.Challenge.rw_rw0006_01.row.prog w) (arnd (dp + 1) (un + 3) gd [lawEnv L]) (leaving (lawEnv L) e) (fun _ s'' => E e s'') (fun e' s'' => E e' s'') s') ⟨h', gens, drawn, tk', os⟩) :
    wpAny (model PySem.Challenge.rw_rw0006_01.row.prog w) (arnd (dp + 1) (un + 3) gd [lawEnv L]) (execs (lawSt 10 :: rest) (lawEnv L)) Q (fun e s' => wpAny (model PySem.Challenge.rw_rw0006_01.row.prog w) (arnd (dp + 1) (un + 3) gd [lawEnv L]) (leaving (lawEnv L) e) (fun _ s'' => E e s'') (fun e' s'' => E e' s'') s') ⟨h, gens, drawn, tk, os⟩ := by
  k_with_none
  w_top off
  revert X
  k_fill
  intro X
  have KX := X
  show wpAny _ (arnd _ _ _ [(envX _ ⟨_, _, _, _, _⟩ _ _ _ _)]) (execs (Stmt.Assign _ _ _ :: _) (envX _ ⟨_, _, _, _, _⟩ _ _ _ _)) _ (fun e s' => wpAny _ (arnd _ _ _ [(envX _ ⟨_, _, _, _, _⟩ _ _ _ _)]) (leaving (envX _ ⟨_, _, _, _, _⟩ _ _ _ _) e) _ _ s') _
  obtain ⟨oN, mN, hN⟩ := hN
  obtain ⟨oT, mT, hT⟩ := hT
  obtain ⟨vs, nR, dR, sR, mR, hi⟩ := hR
  obtain ⟨us, nL, dL, sL, mL, hj⟩ := hL
  have N1 := hdN (hdN (hdN (hdN N mR) (.tail _ mL)) (.tail _ (.tail _ mN))) (.tail _ (.tail _ (.tail _ mT)))
  clear N
  have hvl := hi.length
  have hul := hj.length
  (k_with "exec Assign cons ListComp" => refine Hold.out ?_)
  k_steps
  k_with_none
  refine Hold.hold ?_
  refine compAssign (h₀ := g) (by with_unfolding_all rfl) (by with_unfolding_all rfl) (by decide) (by with_unfolding_all rfl) (by decide) (by with_unfolding_all rfl) (by with_unfolding_all rfl) (by with_unfolding_all rfl) ?_ (by intro _; with_unfolding_all rfl)
  refine wpAny_with_toks (Nat.le_refl _) ?_
  k_steps
  rename News _ _ _ _ => N1
  rename Fr _ _ _ _ => F1
  have hsz : us.toArray.size = 9 := by simp; omega
  refine Feed.of (GVal fun i => Builtin.bitNot (hs.getD i 0)) (GVal.stab _) F1 N1 (srcList rfl (News.isList N1 (.tail _ (.tail _ (.head _))))) (by rw [hsz]; decide) ?_ ?_
  · refine Elt.of F1 N1 ?_
    intro i v s₃ C oC m₃ E' hi8 hP F3 N3 hns hm K3 hCo htk
    obtain ⟨t, hlt, rfl⟩ := src_int hj hP
    obtain ⟨g3, gens3, drawn3, toks3, os3⟩ := s₃
    dsimp only at F3 N3 K3 htk ⊢
    clear F1 N1
    k_unmd
    k_fold
    k_steps
    k_with_none
    exact EltPost.int (fun b o e => by rename Ext _ _ => e'; exact e' b o e) ⟨_, congrArg (fun z => Value.int z _) (by simp [List.getD_eq_getElem?_getD, hlt])⟩
  · intro D h' tk' ys hfin
    have le := hfin.2.2.2.2.2.2.2
    rw [hsz] at hfin
    obtain ⟨NX', N2, k2, l2⟩ := hfin.vals F1
    have F2 := hfin.1
    refine k _ _ D NX' F2 N2 (fun p hp => k2 p (.tail _ (.tail _ (.tail _ (.tail _ hp))))) l2 ?_; (clear k hfin; dsimp only at *; omega)
end Mine
end

section
open PySem PySem.W PyProof.Rows PySem.Calls
namespace Mine
local macro_rules | `(tactic| walk_at "pad of mine") => `(tactic| fail)
local macro_rules | `(tactic| walk_at "eval ListComp") => `(tactic| k_extra "eval ListComp")
local macro_rules | `(tactic| walk_at "exec Return some") => `(tactic| k_extra "exec Return some")
local macro_rules | `(tactic| walk_at "exec Try") => `(tactic| k_extra "exec Try")
local macro_rules | `(tactic| walk_at "subscriptTail") => `(tactic| k_extra "subscriptTail")
local macro_rules | `(tactic| walk_at "subscriptTail Name UnaryOp ref int") => `(tactic| k_extra "subscriptTail Name UnaryOp ref int")
local macro_rules | `(tactic| walk_at "subscriptTail Name Slice ref ref") => `(tactic| k_extra "subscriptTail Name Slice ref ref")
local macro_rules | `(tactic| walk_at "subscriptTail Name Name ref int") => `(tactic| k_extra "subscriptTail Name Name ref int")
local macro_rules | `(tactic| walk_at "subscriptTail Name BinOp ref int") => `(tactic| k_extra "subscriptTail Name BinOp ref int")
local macro_rules | `(tactic| walk_at "call ref") => `(tactic| k_extra "call ref")
local macro_rules | `(tactic| walk_at "call builtin:sum") => `(tactic| k_extra "call builtin:sum")
local macro_rules | `(tactic| walk_at "call builtin:list.append") => `(tactic| k_extra "call builtin:list.append")
local macro_rules | `(tactic| walk_at "exec While") => `(tactic| k_extra "exec While")
local macro_rules | `(tactic| walk_at "exec While Compare cons nil") => `(tactic| k_extra "exec While Compare cons nil")
local macro_rules | `(tactic| walk_at "exec For") => `(tactic| k_extra "exec For")
local macro_rules | `(tactic| walk_at "exec Assign cons ListComp") => `(tactic| k_extra "exec Assign cons ListComp")
local macro_rules | `(tactic| walk_at "compareOp Eq ref ref") => `(tactic| k_extra "compareOp Eq ref ref")
local macro_rules | `(tactic| walk_at "compareOp NotEq ref ref") => `(tactic| k_extra "compareOp NotEq ref ref")
local macro_rules | `(tactic| walk_at "exec For Name Call cons nil") => `(tactic| k_extra "exec For Name Call cons nil")
local macro_rules | `(tactic| walk_at "exec For Name Name cons nil") => `(tactic| k_extra "exec For Name Name cons nil")
local macro_rules | `(tactic| walk_at "binaryOp Mod int int") => `(tactic| k_extra "binaryOp Mod int int")
local macro_rules | `(tactic| walk_at "subscriptTail Name Call ref int") => `(tactic| k_extra "subscriptTail Name Call ref int")
local macro_rules | `(tactic| walk_at "call ref") => `(tactic| (k_here; k_dflt (refine' Ctr.use c_or ?B ?F ?N ?X ?T ?hf ?hk ?hd ?hu ?pre ?_; (case B => k_asm); (case F => k_asm); (case N => k_asm); (case X => k_asm); (case T => k_asm); (case hf => exact rfl); (case hk => exact rfl); (case hd => omega); (case hu => omega); (case pre => trivial); k_whole); (intro r' h' tk' F' N' e' p'); (obtain ⟨t', q'⟩ := p'; subst q'); (try dsimp only)))
local macro_rules | `(tactic| walk_at "call ref") => `(tactic| (k_here; k_dflt (refine' Ctr.use c_and ?B ?F ?N ?X ?T ?hf ?hk ?hd ?hu ?pre ?_; (case B => k_asm); (case F => k_asm); (case N => k_asm); (case X => k_asm); (case T => k_asm); (case hf => exact rfl); (case hk => exact rfl); (case hd => omega); (case hu => omega); (case pre => trivial); k_whole); (intro r' h' tk' F' N' e' p'); (obtain ⟨t', q'⟩ := p'; subst q'); (try dsimp only)))
local macro_rules | `(tactic| walk_at "call ref") => `(tactic| (k_here; k_dflt (refine' Ctr.use c_inv ?B ?F ?N ?X ?T ?hf ?hk ?hd ?hu ?pre ?_; (case B => k_asm); (case F => k_asm); (case N => k_asm); (case X => k_asm); (case T => k_asm); (case hf => exact rfl); (case hk => exact rfl); (case hd => omega); (case hu => omega); (case pre => trivial); k_whole); (intro r' h' tk' F' N' e' p'); (obtain ⟨t', q'⟩ := p'; subst q'); (try dsimp only)))
local macro_rules | `(tactic| walk_at "call ref") => `(tactic| (k_here; k_dflt (refine' Ctr.use c_lshift ?B ?F ?N ?X ?T ?hf ?hk ?hd ?hu ?pre ?_; (case B => k_asm); (case F => k_asm); (case N => k_asm); (case X => k_asm); (case T => k_asm); (case hf => exact rfl); (case hk => exact rfl); (case hd => omega); (case hu => omega); (case pre => first | k_extra "shift" | (refine ⟨?_, ?_, ?_⟩ <;> first | assumption | decide | omega)); k_whole); (intro r' h' tk' F' N' e' p'); (obtain ⟨t', q'⟩ := p'; subst q'); (try dsimp only)))
set_option maxRecDepth 100000 in
set_option maxHeartbeats 4000000 in
theorem law_s11 {w : World} {g h : Heap} {L : Addr} {m : Str → Option Value} {NX : List (Addr × Obj)} {loose : List Str} {mean : ExcName → Option Value} {mg mb : Str → Option Value} {E : Value → Shared → Prop} {Q : Flow → Shared → Prop}
    {dp un tk : Nat} {gd : Option (List Code)} {base : Heap} {gens : Array GenState} {drawn : Drawn} {os : OsState} {rest : List Stmt}
    (B : Below (arnd dp un gd []) base [] g) (X : (hd.heap_39 w.params).In g) (T : Top hd.view_39 loose mean mg mb g) (hd : dp + 50 < recursionLimit) (hu : un + 400 < cLine) (F : Fr g L h m) (N : News g L h NX) {lw hw : Addr} {ls hs : List Int}
    (hN : ImmC NX (L + 1 + 1 + 1 + 1) (some (.ref lw))) (hR : ImmT NX lw ls) (hlen : ls.length = 9) (hT : ImmC NX (L + 1 + 1 + 1 + 1 + 1) (some (.ref hw))) (hL : ImmT NX hw hs) (hll : hs.length = 9)
    (k : ∀ h' tk' D NX', Fr g L h' (fun y => if y = Str.ofString "shared" then some (.ref D) else m y) → News g L h' NX' → (∀ p ∈ NX, p ∈ NX') → ImmT NX' D ((List.range 9).map fun i => Builtin.bitAnd (ls.getD i 0) (hs.getD i 0)) → tk ≤ tk' →
      wpAny (model PySem.Challenge.rw_rw0006_01.row.prog w) (arnd (dp + 1) (un + 3) gd [lawEnv L]) (execs rest (lawEnv L)) Q (fun e s' => wpAny (model PySem.Challenge.rw_rw0006_01.row.prog w) (arnd (dp + 1) (un + 3) gd [lawEnv L]) (leaving (lawEnv L) e) (fun _ s'' => E e s'') (fun e' s'' => E e' s'') s') ⟨h', gens, drawn, tk', os⟩) :
    wpAny (model PySem.Challenge.rw_rw0006_01.row.prog w) (arnd (dp + 1) (un + 3) gd [lawEnv L]) (execs (lawSt 11 :: rest) (lawEnv L)) Q (fun e s' => wpAny (model PySem.Challenge.rw_rw0006_01.row.prog w) (arnd (dp + 1) (un + 3) gd [lawEnv L]) (leaving (lawEnv L) e) (fun _ s'' => E e s'') (fun e' s'' => E e' s'') s') ⟨h, gens, drawn, tk, os⟩ := by
  k_with_none
  w_top off
  revert X
  k_fill
  intro X
  have KX := X
  show wpAny _ (arnd _ _ _ [(envX _ ⟨_, _, _, _, _⟩ _ _ _ _)]) (execs (Stmt.Assign _ _ _ :: _) (envX _ ⟨_, _, _, _, _⟩ _ _ _ _)) _ (fun e s' => wpAny _ (arnd _ _ _ [(envX _ ⟨_, _, _, _, _⟩ _ _ _ _)]) (leaving (envX _ ⟨_, _, _, _, _⟩ _ _ _ _) e) _ _ s') _
  obtain ⟨oN, mN, hN⟩ := hN
  obtain ⟨oT, mT, hT⟩ := hT
  obtain ⟨vs, nR, dR, sR, mR, hi⟩ := hR
  obtain ⟨us, nL, dL, sL, mL, hj⟩ := hL
  have N1 := hdN (hdN (hdN (hdN N mR) (.tail _ mL)) (.tail _ (.tail _ mN))) (.tail _ (.tail _ (.tail _ mT)))
  clear N
  have hvl := hi.length
  have hul := hj.length
  (k_with "exec Assign cons ListComp" => refine Hold.out ?_)
  k_steps
  k_with_none
  refine Hold.hold ?_
  refine compAssign (h₀ := g) (by with_unfolding_all rfl) (by with_unfolding_all rfl) (by decide) (by with_unfolding_all rfl) (by decide) (by with_unfolding_all rfl) (by with_unfolding_all rfl) (by with_unfolding_all rfl) ?_ (by intro _; with_unfolding_all rfl)
  refine wpAny_with_toks (Nat.le_refl _) ?_
  k_steps
  rename News _ _ _ _ => N1
  rename Fr _ _ _ _ => F1
  rename IsRange _ _ _ _ _ _ _ _ => R1
  refine Feed.of (n := 9) (GVal fun i => Builtin.bitAnd (ls.getD i 0) (hs.getD i 0)) (GVal.stab _) F1 N1 (srcRange rfl R1 (small_one (by decide) (by decide) (by omega) (by omega)) (by rw [rangeSize_nat]; omega)) (by decide) ?_ ?_
  · refine Elt.of F1 N1 ?_
    intro i v s₃ C oC m₃ E' hi8 hP F3 N3 hns hm K3 hCo htk
    obtain ⟨t, rfl⟩ := hP
    rw [show (0 : Int) + (i : Int) * 1 = (i : Int) by omega] at hm
    obtain ⟨g3, gens3, drawn3, toks3, os3⟩ := s₃
    dsimp only at F3 N3 K3 htk ⊢
    clear F1 N1
    k_unmd
    k_fold
    k_steps
    k_with_none
    exact EltPost.int (fun b o e => by rename Ext _ _ => e'; exact e' b o e) ⟨_, rfl⟩
  · intro D h' tk' ys hfin
    have le := hfin.2.2.2.2.2.2.2
    obtain ⟨NX', N2, k2, l2⟩ := hfin.vals F1
    have F2 := hfin.1
    refine k _ _ D NX' F2 N2 (fun p hp => k2 p (.tail _ (.tail _ (.tail _ (.tail _ hp))))) l2 ?_; (clear k hfin; dsimp only at *; omega)
end Mine
end

section
open PySem PySem.W PyProof.Rows PySem.Calls
namespace Mine
local macro_rules | `(tactic| walk_at "eval ListComp") => `(tactic| k_extra "eval ListComp")
local macro_rules | `(tactic| walk_at "exec Return some") => `(tactic| k_extra "exec Return some")
local macro_rules | `(tactic| walk_at "exec Try") => `(tactic| k_extra "exec Try")
local macro_rules | `(tactic| walk_at "subscriptTail") => `(tactic| k_extra "subscriptTail")
local macro_rules | `(tactic| walk_at "subscriptTail Name UnaryOp ref int") => `(tactic| k_extra "subscriptTail Name UnaryOp ref int")
local macro_rules | `(tactic| walk_at "subscriptTail Name Slice ref ref") => `(tactic| k_extra "subscriptTail Name Slice ref ref")
local macro_rules | `(tactic| walk_at "subscriptTail Name Name ref int") => `(tactic| k_extra "subscriptTail Name Name ref int")
local macro_rules | `(tactic| walk_at "subscriptTail Name BinOp ref int") => `(tactic| k_extra "subscriptTail Name BinOp ref int")
local macro_rules | `(tactic| walk_at "call ref") => `(tactic| k_extra "call ref")
local macro_rules | `(tactic| walk_at "call builtin:sum") => `(tactic| k_extra "call builtin:sum")
local macro_rules | `(tactic| walk_at "call builtin:list.append") => `(tactic| k_extra "call builtin:list.append")
local macro_rules | `(tactic| walk_at "exec While") => `(tactic| k_extra "exec While")
local macro_rules | `(tactic| walk_at "exec While Compare cons nil") => `(tactic| k_extra "exec While Compare cons nil")
local macro_rules | `(tactic| walk_at "exec For") => `(tactic| k_extra "exec For")
local macro_rules | `(tactic| walk_at "exec Assign cons ListComp") => `(tactic| k_extra "exec Assign cons ListComp")
local macro_rules | `(tactic| walk_at "compareOp Eq ref ref") => `(tactic| k_extra "compareOp Eq ref ref")
local macro_rules | `(tactic| walk_at "compareOp NotEq ref ref") => `(tactic| k_extra "compareOp NotEq ref ref")
local macro_rules | `(tactic| walk_at "exec For Name Call cons nil") => `(tactic| k_extra "exec For Name Call cons nil")
local macro_rules | `(tactic| walk_at "exec For Name Name cons nil") => `(tactic| k_extra "exec For Name Name cons nil")
local macro_rules | `(tactic| walk_at "binaryOp Mod int int") => `(tactic| k_extra "binaryOp Mod int int")
local macro_rules | `(tactic| walk_at "subscriptTail Name Call ref int") => `(tactic| k_extra "subscriptTail Name Call ref int")
local macro_rules | `(tactic| walk_at "call ref") => `(tactic| (k_here; k_dflt (refine' Ctr.use c_or ?B ?F ?N ?X ?T ?hf ?hk ?hd ?hu ?pre ?_; (case B => k_asm); (case F => k_asm); (case N => k_asm); (case X => k_asm); (case T => k_asm); (case hf => exact rfl); (case hk => exact rfl); (case hd => omega); (case hu => omega); (case pre => trivial); k_whole); (intro r' h' tk' F' N' e' p'); (obtain ⟨t', q'⟩ := p'; subst q'); (try dsimp only)))
local macro_rules | `(tactic| walk_at "call ref") => `(tactic| (k_here; k_dflt (refine' Ctr.use c_and ?B ?F ?N ?X ?T ?hf ?hk ?hd ?hu ?pre ?_; (case B => k_asm); (case F => k_asm); (case N => k_asm); (case X => k_asm); (case T => k_asm); (case hf => exact rfl); (case hk => exact rfl); (case hd => omega); (case hu => omega); (case pre => trivial); k_whole); (intro r' h' tk' F' N' e' p'); (obtain ⟨t', q'⟩ := p'; subst q'); (try dsimp only)))
local macro_rules | `(tactic| walk_at "call ref") => `(tactic| (k_here; k_dflt (refine' Ctr.use c_inv ?B ?F ?N ?X ?T ?hf ?hk ?hd ?hu ?pre ?_; (case B => k_asm); (case F => k_asm); (case N => k_asm); (case X => k_asm); (case T => k_asm); (case hf => exact rfl); (case hk => exact rfl); (case hd => omega); (case hu => omega); (case pre => trivial); k_whole); (intro r' h' tk' F' N' e' p'); (obtain ⟨t', q'⟩ := p'; subst q'); (try dsimp only)))
local macro_rules | `(tactic| walk_at "call ref") => `(tactic| (k_here; k_dflt (refine' Ctr.use c_lshift ?B ?F ?N ?X ?T ?hf ?hk ?hd ?hu ?pre ?_; (case B => k_asm); (case F => k_asm); (case N => k_asm); (case X => k_asm); (case T => k_asm); (case hf => exact rfl); (case hk => exact rfl); (case hd => omega); (case hu => omega); (case pre => first | k_extra "shift" | (refine ⟨?_, ?_, ?_⟩ <;> first | assumption | decide | omega)); k_whole); (intro r' h' tk' F' N' e' p'); (obtain ⟨t', q'⟩ := p'; subst q'); (try dsimp only)))
set_option maxRecDepth 100000 in
set_option maxHeartbeats 4000000 in
theorem law_s12 {w : World} {g h : Heap} {L : Addr} {m : Str → Option Value} {NX : List (Addr × Obj)} {loose : List Str} {mean : ExcName → Option Value} {mg mb : Str → Option Value} {E : Value → Shared → Prop} {Q : Flow → Shared → Prop}
    {dp un tk : Nat} {gd : Option (List Code)} {base : Heap} {gens : Array GenState} {drawn : Drawn} {os : OsState} {rest : List Stmt}
    (B : Below (arnd dp un gd []) base [] g) (X : (hd.heap_39 w.params).In g) (T : Top hd.view_39 loose mean mg mb g) (hd : dp + 50 < recursionLimit) (hu : un + 400 < cLine) (F : Fr g L h m) (N : News g L h NX) {lw hw : Addr} {ls hs : List Int}
    (hN : ImmC NX (L + 1 + 1 + 1 + 1) (some (.ref lw))) (hR : ImmT NX lw ls) (hlen : ls.length = 9) (hT : ImmC NX (L + 1 + 1 + 1 + 1 + 1) (some (.ref hw))) (hL : ImmT NX hw hs) (hll : hs.length = 9)
    (k : ∀ h' tk' D NX', Fr g L h' (fun y => if y = Str.ofString "beyond" then some (.ref D) else m y) → News g L h' NX' → (∀ p ∈ NX, p ∈ NX') → ImmT NX' D ((List.range 9).map fun i => Builtin.bitAnd (ls.getD i 0) (Builtin.bitNot 0 * 2 ^ i)) → tk ≤ tk' →
      wpAny (model PySem.Challenge.rw_rw0006_01.row.prog w) (arnd (dp + 1) (un + 3) gd [lawEnv L]) (execs rest (lawEnv L)) Q (fun e s' => wpAny (model PySem.Challenge.rw_rw0006_01.row.prog w) (arnd (dp + 1) (un + 3) gd [lawEnv L]) (leaving (lawEnv L) e) (fun _ s'' => E e s'') (fun e' s'' => E e' s'') s') ⟨h', gens, drawn, tk', os⟩) :
    wpAny (model PySem.Challenge.rw_rw0006_01.row.prog w) (arnd (dp + 1) (un + 3) gd [lawEnv L]) (execs (lawSt 12 :: rest) (lawEnv L)) Q (fun e s' => wpAny (model PySem.Challenge.rw_rw0006_01.row.prog w) (arnd (dp + 1) (un + 3) gd [lawEnv L]) (leaving (lawEnv L) e) (fun _ s'' => E e s'') (fun e' s'' => E e' s'') s') ⟨h, gens, drawn, tk, os⟩ := by
  k_with_none
  w_top off
  revert X
  k_fill
  intro X
  have KX := X
  show wpAny _ (arnd _ _ _ [(envX _ ⟨_, _, _, _, _⟩ _ _ _ _)]) (execs (Stmt.Assign _ _ _ :: _) (envX _ ⟨_, _, _, _, _⟩ _ _ _ _)) _ (fun e s' => wpAny _ (arnd _ _ _ [(envX _ ⟨_, _, _, _, _⟩ _ _ _ _)]) (leaving (envX _ ⟨_, _, _, _, _⟩ _ _ _ _) e) _ _ s') _
  obtain ⟨oN, mN, hN⟩ := hN
  obtain ⟨oT, mT, hT⟩ := hT
  obtain ⟨vs, nR, dR, sR, mR, hi⟩ := hR
  obtain ⟨us, nL, dL, sL, mL, hj⟩ := hL
  have N1 := hdN (hdN (hdN (hdN N mR) (.tail _ mL)) (.tail _ (.tail _ mN))) (.tail _ (.tail _ (.tail _ mT)))
  clear N
  have hvl := hi.length
  have hul := hj.length
  (k_with "exec Assign cons ListComp" => refine Hold.out ?_)
  k_steps
  k_with_none
  refine Hold.hold ?_
  refine compAssign (h₀ := g) (by with_unfolding_all rfl) (by with_unfolding_all rfl) (by decide) (by with_unfolding_all rfl) (by decide) (by with_unfolding_all rfl) (by with_unfolding_all rfl) (by with_unfolding_all rfl) ?_ (by intro _; with_unfolding_all rfl)
  refine wpAny_with_toks (Nat.le_refl _) ?_
  k_steps
  rename News _ _ _ _ => N1
  rename Fr _ _ _ _ => F1
  rename IsRange _ _ _ _ _ _ _ _ => R1
  refine Feed.of (n := 9) (GVal fun i => Builtin.bitAnd (ls.getD i 0) (Builtin.bitNot 0 * 2 ^ i)) (GVal.stab _) F1 N1 (srcRange rfl R1 (small_one (by decide) (by decide) (by omega) (by omega)) (by rw [rangeSize_nat]; omega)) (by decide) ?_ ?_
  · refine Elt.of F1 N1 ?_
    intro i v s₃ C oC m₃ E' hi8 hP F3 N3 hns hm K3 hCo htk
    obtain ⟨t, rfl⟩ := hP
    rw [show (0 : Int) + (i : Int) * 1 = (i : Int) by omega] at hm
    obtain ⟨g3, gens3, drawn3, toks3, os3⟩ := s₃
    dsimp only at F3 N3 K3 htk ⊢
    clear F1 N1
    k_unmd
    k_fold
    k_steps
    k_with_none
    refine EltPost.int (fun b o e => ?_) ⟨_, rfl⟩
    rename Ext _ _ => e1; apply e1; clear e1; rename Ext _ _ => e2; apply e2; clear e2; rename Ext _ _ => e3; exact e3 b o e
  · intro D h' tk' ys hfin
    have le := hfin.2.2.2.2.2.2.2
    obtain ⟨NX', N2, k2, l2⟩ := hfin.vals F1
    have F2 := hfin.1
    refine k _ _ D NX' F2 N2 (fun p hp => k2 p (.tail _ (.tail _ (.tail _ (.tail _ hp))))) l2 ?_; (clear k hfin; dsimp only at *; omega)
end Mine
end

section
open PySem PySem.W PyProof.Rows PySem.Calls
namespace Mine
local macro_rules | `(tactic| walk_at "pad of mine") => `(tactic| fail)
local macro_rules | `(tactic| walk_at "eval ListComp") => `(tactic| k_extra "eval ListComp")
local macro_rules | `(tactic| walk_at "exec Return some") => `(tactic| k_extra "exec Return some")
local macro_rules | `(tactic| walk_at "exec Try") => `(tactic| k_extra "exec Try")
local macro_rules | `(tactic| walk_at "subscriptTail") => `(tactic| k_extra "subscriptTail")
local macro_rules | `(tactic| walk_at "subscriptTail Name UnaryOp ref int") => `(tactic| k_extra "subscriptTail Name UnaryOp ref int")
local macro_rules | `(tactic| walk_at "subscriptTail Name Slice ref ref") => `(tactic| k_extra "subscriptTail Name Slice ref ref")
local macro_rules | `(tactic| walk_at "subscriptTail Name Name ref int") => `(tactic| k_extra "subscriptTail Name Name ref int")
local macro_rules | `(tactic| walk_at "subscriptTail Name BinOp ref int") => `(tactic| k_extra "subscriptTail Name BinOp ref int")
local macro_rules | `(tactic| walk_at "call ref") => `(tactic| k_extra "call ref")
local macro_rules | `(tactic| walk_at "call builtin:sum") => `(tactic| k_extra "call builtin:sum")
local macro_rules | `(tactic| walk_at "call builtin:list.append") => `(tactic| k_extra "call builtin:list.append")
local macro_rules | `(tactic| walk_at "exec While") => `(tactic| k_extra "exec While")
local macro_rules | `(tactic| walk_at "exec While Compare cons nil") => `(tactic| k_extra "exec While Compare cons nil")
local macro_rules | `(tactic| walk_at "exec For") => `(tactic| k_extra "exec For")
local macro_rules | `(tactic| walk_at "exec Assign cons ListComp") => `(tactic| k_extra "exec Assign cons ListComp")
local macro_rules | `(tactic| walk_at "compareOp Eq ref ref") => `(tactic| k_extra "compareOp Eq ref ref")
local macro_rules | `(tactic| walk_at "compareOp NotEq ref ref") => `(tactic| k_extra "compareOp NotEq ref ref")
local macro_rules | `(tactic| walk_at "exec For Name Call cons nil") => `(tactic| k_extra "exec For Name Call cons nil")
local macro_rules | `(tactic| walk_at "exec For Name Name cons nil") => `(tactic| k_extra "exec For Name Name cons nil")
local macro_rules | `(tactic| walk_at "binaryOp Mod int int") => `(tactic| k_extra "binaryOp Mod int int")
local macro_rules | `(tactic| walk_at "subscriptTail Name Call ref int") => `(tactic| k_extra "subscriptTail Name Call ref int")
local macro_rules | `(tactic| walk_at "call ref") => `(tactic| (k_here; k_dflt (refine' Ctr.use c_or ?B ?F ?N ?X ?T ?hf ?hk ?hd ?hu ?pre ?_; (case B => k_asm); (case F => k_asm); (case N => k_asm); (case X => k_asm); (case T => k_asm); (case hf => exact rfl); (case hk => exact rfl); (case hd => omega); (case hu => omega); (case pre => trivial); k_whole); (intro r' h' tk' F' N' e' p'); (obtain ⟨t', q'⟩ := p'; subst q'); (try dsimp only)))
local macro_rules | `(tactic| walk_at "call ref") => `(tactic| (k_here; k_dflt (refine' Ctr.use c_and ?B ?F ?N ?X ?T ?hf ?hk ?hd ?hu ?pre ?_; (case B => k_asm); (case F => k_asm); (case N => k_asm); (case X => k_asm); (case T => k_asm); (case hf => exact rfl); (case hk => exact rfl); (case hd => omega); (case hu => omega); (case pre => trivial); k_whole); (intro r' h' tk' F' N' e' p'); (obtain ⟨t', q'⟩ := p'; subst q'); (try dsimp only)))
local macro_rules | `(tactic| walk_at "call ref") => `(tactic| (k_here; k_dflt (refine' Ctr.use c_inv ?B ?F ?N ?X ?T ?hf ?hk ?hd ?hu ?pre ?_; (case B => k_asm); (case F => k_asm); (case N => k_asm); (case X => k_asm); (case T => k_asm); (case hf => exact rfl); (case hk => exact rfl); (case hd => omega); (case hu => omega); (case pre => trivial); k_whole); (intro r' h' tk' F' N' e' p'); (obtain ⟨t', q'⟩ := p'; subst q'); (try dsimp only)))
local macro_rules | `(tactic| walk_at "call ref") => `(tactic| (k_here; k_dflt (refine' Ctr.use c_lshift ?B ?F ?N ?X ?T ?hf ?hk ?hd ?hu ?pre ?_; (case B => k_asm); (case F => k_asm); (case N => k_asm); (case X => k_asm); (case T => k_asm); (case hf => exact rfl); (case hk => exact rfl); (case hd => omega); (case hu => omega); (case pre => first | k_extra "shift" | (refine ⟨?_, ?_, ?_⟩ <;> first | assumption | decide | omega)); k_whole); (intro r' h' tk' F' N' e' p'); (obtain ⟨t', q'⟩ := p'; subst q'); (try dsimp only)))
set_option maxRecDepth 100000 in
set_option maxHeartbeats 4000000 in
theorem law_s13 {w : World} {g h : Heap} {L : Addr} {m : Str → Option Value} {NX : List (Addr × Obj)} {loose : List Str} {mean : ExcName → Option Value} {mg mb : Str → Option Value} {E : Value → Shared → Prop} {Q : Flow → Shared → Prop}
    {dp un tk : Nat} {gd : Option (List Code)} {base : Heap} {gens : Array GenState} {drawn : Drawn} {os : OsState} {rest : List Stmt}
    (B : Below (arnd dp un gd []) base [] g) (X : (hd.heap_39 w.params).In g) (T : Top hd.view_39 loose mean mg mb g) (hd : dp + 50 < recursionLimit) (hu : un + 400 < cLine) (F : Fr g L h m) (N : News g L h NX) {lw hw : Addr} {ls hs : List Int}
    (hN : ImmC NX (L + 1 + 1 + 1 + 1) (some (.ref lw))) (hR : ImmT NX lw ls) (hlen : ls.length = 9) (hT : ImmC NX (L + 1 + 1 + 1 + 1 + 1) (some (.ref hw))) (hL : ImmT NX hw hs) (hll : hs.length = 9)
    (k : ∀ h' tk' D NX', Fr g L h' (fun y => if y = Str.ofString "filled" then some (.ref D) else m y) → News g L h' NX' → (∀ p ∈ NX, p ∈ NX') → ImmT NX' D ((List.range 9).map fun i => Builtin.bitOr (ls.getD i 0) (hs.getD i 0)) → tk ≤ tk' →
      wpAny (model PySem.Challenge.rw_rw0006_01.row.prog w) (arnd (dp + 1) (un + 3) gd [lawEnv L]) (execs rest (lawEnv L)) Q (fun e s' => wpAny (model PySem.Challenge.rw_rw0006_01.row.prog w) (arnd (dp + 1) (un + 3) gd [lawEnv L]) (leaving (lawEnv L) e) (fun _ s'' => E e s'') (fun e' s'' => E e' s'') s') ⟨h', gens, drawn, tk', os⟩) :
    wpAny (model PySem.Challenge.rw_rw0006_01.row.prog w) (arnd (dp + 1) (un + 3) gd [lawEnv L]) (execs (lawSt 13 :: rest) (lawEnv L)) Q (fun e s' => wpAny (model PySem.Challenge.rw_rw0006_01.row.prog w) (arnd (dp + 1) (un + 3) gd [lawEnv L]) (leaving (lawEnv L) e) (fun _ s'' => E e s'') (fun e' s'' => E e' s'') s') ⟨h, gens, drawn, tk, os⟩ := by
  k_with_none
  w_top off
  revert X
  k_fill
  intro X
  have KX := X
  show wpAny _ (arnd _ _ _ [(envX _ ⟨_, _, _, _, _⟩ _ _ _ _)]) (execs (Stmt.Assign _ _ _ :: _) (envX _ ⟨_, _, _, _, _⟩ _ _ _ _)) _ (fun e s' => wpAny _ (arnd _ _ _ [(envX _ ⟨_, _, _, _, _⟩ _ _ _ _)]) (leaving (envX _ ⟨_, _, _, _, _⟩ _ _ _ _) e) _ _ s') _
  obtain ⟨oN, mN, hN⟩ := hN
  obtain ⟨oT, mT, hT⟩ := hT
  obtain ⟨vs, nR, dR, sR, mR, hi⟩ := hR
  obtain ⟨us, nL, dL, sL, mL, hj⟩ := hL
  have N1 := hdN (hdN (hdN (hdN N mR) (.tail _ mL)) (.tail _ (.tail _ mN))) (.tail _ (.tail _ (.tail _ mT)))
  clear N
  have hvl := hi.length
  have hul := hj.length
  (k_with "exec Assign cons ListComp" => refine Hold.out ?_)
  k_steps
  k_with_none
  refine Hold.hold ?_
  refine compAssign (h₀ := g) (by with_unfolding_all rfl) (by with_unfolding_all rfl) (by decide) (by with_unfolding_all rfl) (by decide) (by with_unfolding_all rfl) (by with_unfolding_all rfl) (by with_unfolding_all rfl) ?_ (by intro _; with_unfolding_all rfl)
  refine wpAny_with_toks (Nat.le_refl _) ?_
  k_steps
  rename News _ _ _ _ => N1
  rename Fr _ _ _ _ => F1
  rename IsRange _ _ _ _ _ _ _ _ => R1
  refine Feed.of (n := 9) (GVal fun i => Builtin.bitOr (ls.getD i 0) (hs.getD i 0)) (GVal.stab _) F1 N1 (srcRange rfl R1 (small_one (by decide) (by decide) (by omega) (by omega)) (by rw [rangeSize_nat]; omega)) (by decide) ?_ ?_
  · refine Elt.of F1 N1 ?_
    intro i v s₃ C oC m₃ E' hi8 hP F3 N3 hns hm K3 hCo htk
    obtain ⟨t, rfl⟩ := hP
    rw [show (0 : Int) + (i : Int) * 1 = (i : Int) by omega] at hm
    obtain ⟨g3, gens3, drawn3, toks3, os3⟩ := s₃
    dsimp only at F3 N3 K3 htk ⊢
    clear F1 N1
    k_unmd
    k_fold
    k_steps
    k_with_none
    exact EltPost.int (fun b o e => by rename Ext _ _ => e'; exact e' b o e) ⟨_, rfl⟩
  · intro D h' tk' ys hfin
    have le := hfin.2.2.2.2.2.2.2
    obtain ⟨NX', N2, k2, l2⟩ := hfin.vals F1
    have F2 := hfin.1
    refine k _ _ D NX' F2 N2 (fun p hp => k2 p (.tail _ (.tail _ (.tail _ (.tail _ hp))))) l2 ?_; (clear k hfin; dsimp only at *; omega)
end Mine
end

section
open PySem PySem.W PyProof.Rows PySem.Calls
namespace Mine
local macro_rules | `(tactic| walk_at "eval ListComp") => `(tactic| k_extra "eval ListComp")
local macro_rules | `(tactic| walk_at "exec Return some") => `(tactic| k_extra "exec Return some")
local macro_rules | `(tactic| walk_at "exec Try") => `(tactic| k_extra "exec Try")
local macro_rules | `(tactic| walk_at "subscriptTail") => `(tactic| k_extra "subscriptTail")
local macro_rules | `(tactic| walk_at "subscriptTail Name UnaryOp ref int") => `(tactic| k_extra "subscriptTail Name UnaryOp ref int")
local macro_rules | `(tactic| walk_at "subscriptTail Name Slice ref ref") => `(tactic| k_extra "subscriptTail Name Slice ref ref")
local macro_rules | `(tactic| walk_at "subscriptTail Name Name ref int") => `(tactic| k_extra "subscriptTail Name Name ref int")
local macro_rules | `(tactic| walk_at "subscriptTail Name BinOp ref int") => `(tactic| k_extra "subscriptTail Name BinOp ref int")
local macro_rules | `(tactic| walk_at "call ref") => `(tactic| k_extra "call ref")
local macro_rules | `(tactic| walk_at "call builtin:sum") => `(tactic| k_extra "call builtin:sum")
local macro_rules | `(tactic| walk_at "call builtin:list.append") => `(tactic| k_extra "call builtin:list.append")
local macro_rules | `(tactic| walk_at "exec While") => `(tactic| k_extra "exec While")
local macro_rules | `(tactic| walk_at "exec While Compare cons nil") => `(tactic| k_extra "exec While Compare cons nil")
local macro_rules | `(tactic| walk_at "exec For") => `(tactic| k_extra "exec For")
local macro_rules | `(tactic| walk_at "exec Assign cons ListComp") => `(tactic| k_extra "exec Assign cons ListComp")
local macro_rules | `(tactic| walk_at "compareOp Eq ref ref") => `(tactic| k_extra "compareOp Eq ref ref")
local macro_rules | `(tactic| walk_at "compareOp NotEq ref ref") => `(tactic| k_extra "compareOp NotEq ref ref")
local macro_rules | `(tactic| walk_at "exec For Name Call cons nil") => `(tactic| k_extra "exec For Name Call cons nil")
local macro_rules | `(tactic| walk_at "exec For Name Name cons nil") => `(tactic| k_extra "exec For Name Name cons nil")
local macro_rules | `(tactic| walk_at "binaryOp Mod int int") => `(tactic| k_extra "binaryOp Mod int int")
local macro_rules | `(tactic| walk_at "subscriptTail Name Call ref int") => `(tactic| k_extra "subscriptTail Name Call ref int")
theorem flat_rep (n : Nat) (v : Int) : (List.replicate ((n : Nat) : Int).toNat [v]).flatten = List.replicate n v := by
  rw [Int.toNat_natCast]
  induction n with
  | zero => rfl
  | succ n ih => rw [List.replicate_succ, List.flatten_cons, ih, List.replicate_succ]; rfl
set_option maxRecDepth 100000 in
set_option maxHeartbeats 4000000 in
theorem law_s14 {w : World} {g h : Heap} {L : Addr} {m : Str → Option Value} {NX : List (Addr × Obj)} {loose : List Str} {mean : ExcName → Option Value} {mg mb : Str → Option Value} {E : Value → Shared → Prop} {Q : Flow → Shared → Prop}
    {dp un tk : Nat} {gd : Option (List Code)} {base : Heap} {gens : Array GenState} {drawn : Drawn} {os : OsState} {rest : List Stmt}
    (B : Below (arnd dp un gd []) base [] g) (X : (hd.heap_39 w.params).In g) (T : Top hd.view_39 loose mean mg mb g) (hd : dp + 50 < recursionLimit) (hu : un + 400 < cLine) (F : Fr g L h m) (N : News g L h NX) {lw tu sh be fi : Addr} {ls : List Int}
    (hN : ImmC NX (L + 1 + 1 + 1 + 1) (some (.ref lw))) (hl : ImmT NX lw ls) (hlen : ls.length = 9)
    (hm1 : m (Str.ofString "turned") = some (.ref tu)) (hm2 : m (Str.ofString "shared") = some (.ref sh)) (hm3 : m (Str.ofString "beyond") = some (.ref be)) (hm4 : m (Str.ofString "filled") = some (.ref fi))
    (h1 : ImmT NX tu ls) (h2 : ImmT NX sh (List.replicate 9 0)) (h3 : ImmT NX be (List.replicate 9 0)) (h4 : ImmT NX fi (List.replicate 9 (-1)))
    (k : ∀ h' tk' m', Fr g L h' m' → News g L h' NX → (∀ y, m' y = m y) →
      wpAny (model PySem.Challenge.rw_rw0006_01.row.prog w) (arnd (dp + 1) (un + 3) gd [lawEnv L]) (execs rest (lawEnv L)) Q (fun e s' => wpAny (model PySem.Challenge.rw_rw0006_01.row.prog w) (arnd (dp + 1) (un + 3) gd [lawEnv L]) (leaving (lawEnv L) e) (fun _ s'' => E e s'') (fun e' s'' => E e' s'') s') ⟨h', gens, drawn, tk', os⟩) :
    wpAny (model PySem.Challenge.rw_rw0006_01.row.prog w) (arnd (dp + 1) (un + 3) gd [lawEnv L]) (execs (lawSt 14 :: rest) (lawEnv L)) Q (fun e s' => wpAny (model PySem.Challenge.rw_rw0006_01.row.prog w) (arnd (dp + 1) (un + 3) gd [lawEnv L]) (leaving (lawEnv L) e) (fun _ s'' => E e s'') (fun e' s'' => E e' s'') s') ⟨h, gens, drawn, tk, os⟩ := by
  k_with_none
  w_top off
  revert X
  k_fill
  intro X
  have KX := X
  show wpAny _ (arnd _ _ _ [(envX _ ⟨_, _, _, _, _⟩ _ _ _ _)]) (execs (Stmt.If _ _ _ _ :: _) (envX _ ⟨_, _, _, _, _⟩ _ _ _ _)) _ (fun e s' => wpAny _ (arnd _ _ _ [(envX _ ⟨_, _, _, _, _⟩ _ _ _ _)]) (leaving (envX _ ⟨_, _, _, _, _⟩ _ _ _ _) e) _ _ s') _
  obtain ⟨oN, mN, hNd⟩ := hN
  obtain ⟨vs, n0, d0, s0, m0, i0⟩ := hl
  obtain ⟨vs1, n1, d1, s1, m1, i1⟩ := h1
  obtain ⟨vs2, n2, d2, s2, m2, i2⟩ := h2
  obtain ⟨vs3, n3, d3, s3, m3, i3⟩ := h3
  obtain ⟨vs4, n4, d4, s4, m4, i4⟩ := h4
  have hvl := i0.length
  have F1 := (((F.known0 hm1).known0 (n := Str.ofString "shared") (w := .ref sh) (by (try dsimp only); (repeat rw [if_neg (by decide)]); exact hm2)).known0 (n := Str.ofString "beyond") (w := .ref be) (by (try dsimp only); (repeat rw [if_neg (by decide)]); exact hm3)).known0 (n := Str.ofString "filled") (w := .ref fi) (by (try dsimp only); (repeat rw [if_neg (by decide)]); exact hm4)
  have N1 := ((((((hds N).on mN).on m0).on m1).on m2).on m3).on m4 |>.1
  clear F
  (k_with "compareOp NotEq ref ref" => k_dflt (first
    | refine ne_same ⟨_, News.isList (by assumption) (by (repeat' (first | exact List.Mem.head _ | apply List.Mem.tail))), i1⟩ ⟨_, News.isList (by assumption) (by (repeat' (first | exact List.Mem.head _ | apply List.Mem.tail))), i0⟩ (by omega) ?_
    | refine ne_same ⟨_, News.isList (by assumption) (by (repeat' (first | exact List.Mem.head _ | apply List.Mem.tail))), i3⟩ ⟨_, News.isList (by assumption) (by (repeat' (first | exact List.Mem.head _ | apply List.Mem.tail))), i2⟩ (by omega) ?_
    | ((rename IntsAre (List.flatten _) _ => I9); rw [hlen, flat_rep] at I9; refine ne_same ⟨_, News.isList (by assumption) (by (repeat' (first | exact List.Mem.head _ | apply List.Mem.tail))), i2⟩ ⟨_, News.isList (by assumption) (by (repeat' (first | exact List.Mem.head _ | apply List.Mem.tail))), I9⟩ (by omega) ?_)
    | ((rename IntsAre (List.flatten _) _ => I9); rw [hlen, flat_rep] at I9; refine ne_same ⟨_, News.isList (by assumption) (by (repeat' (first | exact List.Mem.head _ | apply List.Mem.tail))), i4⟩ ⟨_, News.isList (by assumption) (by (repeat' (first | exact List.Mem.head _ | apply List.Mem.tail))), I9⟩ (by omega) ?_)))
  k_steps
  k_with_none
  all_goals first
    | (exfalso; (rename (¬ (List.replicate _ _ = List.flatten _)) => z); exact z (by rw [hlen, flat_rep]))
    | ((rename Fr _ _ _ _ => F9); (rename News _ _ _ _ => N9); (try dsimp only); refine k _ _ _ F9 (subN N9 ?_) ?_)
  · intro p hp
    (repeat' (first | exact List.Mem.head _ | apply List.Mem.tail))
    exact hp
  · intro y
    (try dsimp only)
    repeat' split
    all_goals first
      | rfl
      | (rename_i z; rw [z]; first | exact hm4.symm | exact hm3.symm | exact hm2.symm | exact hm1.symm)
set_option maxRecDepth 100000 in
set_option maxHeartbeats 4000000 in
theorem law_s15 {w : World} {g h : Heap} {L : Addr} {m : Str → Option Value} {NX : List (Addr × Obj)} {loose : List Str} {mean : ExcName → Option Value} {mg mb : Str → Option Value} {E : Value → Shared → Prop} {Q : Flow → Shared → Prop}
    {dp un tk : Nat} {gd : Option (List Code)} {base : Heap} {gens : Array GenState} {drawn : Drawn} {os : OsState} {rest : List Stmt}
    (B : Below (arnd dp un gd []) base [] g) (X : (hd.heap_39 w.params).In g) (T : Top hd.view_39 loose mean mg mb g) (hd : dp + 50 < recursionLimit) (hu : un + 400 < cLine) (F : Fr g L h m) (N : News g L h NX) {lw hw fo mk tu sh be fi : Addr} {l0 l1 l2 l3 l4 l5 l6 l7 : List Int}
    (hN : ImmC NX (L + 1 + 1 + 1 + 1) (some (.ref lw))) (hT : ImmC NX (L + 1 + 1 + 1 + 1 + 1) (some (.ref hw)))
    (ha : ImmT NX lw l0) (hla : l0.length = 9) (hb : ImmT NX hw l1) (hlb : l1.length = 9)
    (hm1 : m (Str.ofString "turned") = some (.ref tu)) (hm2 : m (Str.ofString "shared") = some (.ref sh)) (hm3 : m (Str.ofString "beyond") = some (.ref be)) (hm4 : m (Str.ofString "filled") = some (.ref fi))
    (hm5 : m (Str.ofString "found") = some (.ref fo)) (hm6 : m (Str.ofString "masks") = some (.ref mk))
    (h1 : ImmT NX tu l2) (hl2 : l2.length = 9) (h2 : ImmT NX sh l3) (hl3 : l3.length = 9) (h3 : ImmT NX be l4) (hl4 : l4.length = 9) (h4 : ImmT NX fi l5) (hl5 : l5.length = 9) (h5 : ImmT NX fo l6) (hl6 : l6.length = 8) (h6 : ImmT NX mk l7) (hl7 : l7.length = 4)
    (k : ∀ h' tk' m', Fr g L h' m' → News g L h' NX → (∀ y, m' y = m y) →
      wpAny (model PySem.Challenge.rw_rw0006_01.row.prog w) (arnd (dp + 1) (un + 3) gd [lawEnv L]) (execs rest (lawEnv L)) Q (fun e s' => wpAny (model PySem.Challenge.rw_rw0006_01.row.prog w) (arnd (dp + 1) (un + 3) gd [lawEnv L]) (leaving (lawEnv L) e) (fun _ s'' => E e s'') (fun e' s'' => E e' s'') s') ⟨h', gens, drawn, tk', os⟩) :
    wpAny (model PySem.Challenge.rw_rw0006_01.row.prog w) (arnd (dp + 1) (un + 3) gd [lawEnv L]) (execs (lawSt 15 :: rest) (lawEnv L)) Q (fun e s' => wpAny (model PySem.Challenge.rw_rw0006_01.row.prog w) (arnd (dp + 1) (un + 3) gd [lawEnv L]) (leaving (lawEnv L) e) (fun _ s'' => E e s'') (fun e' s'' => E e' s'') s') ⟨h, gens, drawn, tk, os⟩ := by
  k_with_none
  w_top off
  revert X
  k_fill
  intro X
  have KX := X
  show wpAny _ (arnd _ _ _ [(envX _ ⟨_, _, _, _, _⟩ _ _ _ _)]) (execs (Stmt.If _ _ _ _ :: _) (envX _ ⟨_, _, _, _, _⟩ _ _ _ _)) _ (fun e s' => wpAny _ (arnd _ _ _ [(envX _ ⟨_, _, _, _, _⟩ _ _ _ _)]) (leaving (envX _ ⟨_, _, _, _, _⟩ _ _ _ _) e) _ _ s') _
  obtain ⟨oN, mN, hNd⟩ := hN
  obtain ⟨oT, mT, hTd⟩ := hT
  obtain ⟨vsa, na, da, sa, ma, ia⟩ := ha
  obtain ⟨vsb, nb, db, sb, mb, ib⟩ := hb
  obtain ⟨vs1, n1, d1, s1, m1, i1⟩ := h1
  obtain ⟨vs2, n2, d2, s2, m2, i2⟩ := h2
  obtain ⟨vs3, n3, d3, s3, m3, i3⟩ := h3
  obtain ⟨vs4, n4, d4, s4, m4, i4⟩ := h4
  obtain ⟨vs5, n5, d5, s5, m5, i5⟩ := h5
  obtain ⟨vs6, n6, d6, s6, m6, i6⟩ := h6
  have hva := ia.length
  have hvb := ib.length
  have hv1 := i1.length
  have hv2 := i2.length
  have hv3 := i3.length
  have hv4 := i4.length
  have hv5 := i5.length
  have hv6 := i6.length
  have F1 := (((((F.known0 hm1).known0 (n := Str.ofString "shared") (w := .ref sh) (by (try dsimp only); (repeat rw [if_neg (by decide)]); exact hm2)).known0 (n := Str.ofString "beyond") (w := .ref be) (by (try dsimp only); (repeat rw [if_neg (by decide)]); exact hm3)).known0 (n := Str.ofString "filled") (w := .ref fi) (by (try dsimp only); (repeat rw [if_neg (by decide)]); exact hm4)).known0 (n := Str.ofString "found") (w := .ref fo) (by (try dsimp only); (repeat rw [if_neg (by decide)]); exact hm5)).known0 (n := Str.ofString "masks") (w := .ref mk) (by (try dsimp only); (repeat rw [if_neg (by decide)]); exact hm6)
  have N1 := ((((((((((hds N).on mN).on mT).on ma).on mb).on m1).on m2).on m3).on m4).on m5).on m6 |>.1
  clear F
  (k_with "call ref" => (k_here; k_dflt (refine' Ctr.use c_whole ?B ?F ?N ?X ?T ?hf ?hk ?hd ?hu ?pre ?_; (case B => k_asm); (case F => k_asm); (case N => k_asm); (case X => k_asm); (case T => k_asm); (case hf => exact rfl); (case hk => exact rfl); (case hd => omega); (case hu => omega); (case pre => refine ⟨⟨_, News.isList (by assumption) (by (repeat' (first | exact List.Mem.head _ | apply List.Mem.tail))), by assumption⟩, ?_⟩; simp only [List.length_append]; omega); k_whole); (intro r' h' tk' F' N' e' p'; subst p'); (try dsimp only)))
  k_steps
  k_with_none
  all_goals first
    | (exfalso; (rename (¬ (List.replicate _ _ = List.flatten _)) => z); exact z (by rw [hlen, flat_rep]))
    | ((rename Fr _ _ _ _ => F9); (rename News _ _ _ _ => N9); (try dsimp only); refine k _ _ _ F9 (subN N9 ?_) ?_)
  · intro p hp
    (repeat' (first | exact List.Mem.head _ | apply List.Mem.tail))
    exact hp
  · intro y
    (try dsimp only)
    repeat' split
    all_goals first
      | rfl
      | (rename_i z; rw [z]; first | exact hm4.symm | exact hm3.symm | exact hm2.symm | exact hm1.symm | exact hm5.symm | exact hm6.symm)
set_option maxRecDepth 100000 in
set_option maxHeartbeats 4000000 in
theorem law_s18 {w : World} {g h : Heap} {L : Addr} {m : Str → Option Value} {NX : List (Addr × Obj)} {loose : List Str} {mean : ExcName → Option Value} {mg mb : Str → Option Value} {E : Value → Shared → Prop} {Q : Flow → Shared → Prop}
    {dp un tk : Nat} {gd : Option (List Code)} {base : Heap} {gens : Array GenState} {drawn : Drawn} {os : OsState} {rest : List Stmt}
    (B : Below (arnd dp un gd []) base [] g) (X : (hd.heap_39 w.params).In g) (T : Top hd.view_39 loose mean mg mb g) (hd : dp + 50 < recursionLimit) (hu : un + 400 < cLine) (F : Fr g L h m) (N : News g L h NX) (k : ∀ h' tk', Fr g L h' m → Q (.ret (.bool true)) ⟨h', gens, drawn, tk', os⟩) : wpAny (model PySem.Challenge.rw_rw0006_01.row.prog w) (arnd (dp + 1) (un + 3) gd [lawEnv L]) (execs (lawSt 18 :: rest) (lawEnv L)) Q (fun e s' => wpAny (model PySem.Challenge.rw_rw0006_01.row.prog w) (arnd (dp + 1) (un + 3) gd [lawEnv L]) (leaving (lawEnv L) e) (fun _ s'' => E e s'') (fun e' s'' => E e' s'') s') ⟨h, gens, drawn, tk, os⟩ := by
  k_with_none
  w_top off
  revert X
  k_fill
  intro X
  have KX := X
  show wpAny _ (arnd _ _ _ [(envX _ ⟨_, _, _, _, _⟩ _ _ _ _)]) (execs (Stmt.Return _ _ :: _) (envX _ ⟨_, _, _, _, _⟩ _ _ _ _)) _ (fun e s' => wpAny _ (arnd _ _ _ [(envX _ ⟨_, _, _, _, _⟩ _ _ _ _)]) (leaving (envX _ ⟨_, _, _, _, _⟩ _ _ _ _) e) _ _ s') _
  k_steps
  exact k _ _ (by assumption)
end Mine
end

section
open PySem PySem.W PyProof.Rows PySem.Calls
namespace Mine
local macro_rules | `(tactic| walk_at "eval ListComp") => `(tactic| k_extra "eval ListComp")
local macro_rules | `(tactic| walk_at "exec Return some") => `(tactic| k_extra "exec Return some")
local macro_rules | `(tactic| walk_at "exec Try") => `(tactic| k_extra "exec Try")
local macro_rules | `(tactic| walk_at "subscriptTail") => `(tactic| k_extra "subscriptTail")
local macro_rules | `(tactic| walk_at "subscriptTail Name UnaryOp ref int") => `(tactic| k_extra "subscriptTail Name UnaryOp ref int")
local macro_rules | `(tactic| walk_at "subscriptTail Name Slice ref ref") => `(tactic| k_extra "subscriptTail Name Slice ref ref")
local macro_rules | `(tactic| walk_at "subscriptTail Name Name ref int") => `(tactic| k_extra "subscriptTail Name Name ref int")
local macro_rules | `(tactic| walk_at "subscriptTail Name BinOp ref int") => `(tactic| k_extra "subscriptTail Name BinOp ref int")
local macro_rules | `(tactic| walk_at "call ref") => `(tactic| k_extra "call ref")
local macro_rules | `(tactic| walk_at "call builtin:sum") => `(tactic| k_extra "call builtin:sum")
local macro_rules | `(tactic| walk_at "call builtin:list.append") => `(tactic| k_extra "call builtin:list.append")
local macro_rules | `(tactic| walk_at "exec While") => `(tactic| k_extra "exec While")
local macro_rules | `(tactic| walk_at "exec While Compare cons nil") => `(tactic| k_extra "exec While Compare cons nil")
local macro_rules | `(tactic| walk_at "exec For") => `(tactic| k_extra "exec For")
local macro_rules | `(tactic| walk_at "exec Assign cons ListComp") => `(tactic| k_extra "exec Assign cons ListComp")
local macro_rules | `(tactic| walk_at "compareOp Eq ref ref") => `(tactic| k_extra "compareOp Eq ref ref")
local macro_rules | `(tactic| walk_at "compareOp NotEq ref ref") => `(tactic| k_extra "compareOp NotEq ref ref")
local macro_rules | `(tactic| walk_at "exec For Name Call cons nil") => `(tactic| k_extra "exec For Name Call cons nil")
local macro_rules | `(tactic| walk_at "exec For Name Name cons nil") => `(tactic| k_extra "exec For Name Name cons nil")
local macro_rules | `(tactic| walk_at "binaryOp Mod int int") => `(tactic| k_extra "binaryOp Mod int int")
local macro_rules | `(tactic| walk_at "subscriptTail Name Call ref int") => `(tactic| k_extra "subscriptTail Name Call ref int")
local macro_rules | `(tactic| walk_at "call ref") => `(tactic| (k_here; k_dflt (refine' Ctr.use c_or ?B ?F ?N ?X ?T ?hf ?hk ?hd ?hu ?pre ?_; (case B => k_asm); (case F => k_asm); (case N => k_asm); (case X => k_asm); (case T => k_asm); (case hf => exact rfl); (case hk => exact rfl); (case hd => omega); (case hu => omega); (case pre => trivial); k_whole); (intro r' h' tk' F' N' e' p'); (obtain ⟨t', q'⟩ := p'; subst q'); (try dsimp only)))
local macro_rules | `(tactic| walk_at "call ref") => `(tactic| (k_here; k_dflt (refine' Ctr.use c_and ?B ?F ?N ?X ?T ?hf ?hk ?hd ?hu ?pre ?_; (case B => k_asm); (case F => k_asm); (case N => k_asm); (case X => k_asm); (case T => k_asm); (case hf => exact rfl); (case hk => exact rfl); (case hd => omega); (case hu => omega); (case pre => trivial); k_whole); (intro r' h' tk' F' N' e' p'); (obtain ⟨t', q'⟩ := p'; subst q'); (try dsimp only)))
local macro_rules | `(tactic| walk_at "call ref") => `(tactic| (k_here; k_dflt (refine' Ctr.use c_inv ?B ?F ?N ?X ?T ?hf ?hk ?hd ?hu ?pre ?_; (case B => k_asm); (case F => k_asm); (case N => k_asm); (case X => k_asm); (case T => k_asm); (case hf => exact rfl); (case hk => exact rfl); (case hd => omega); (case hu => omega); (case pre => trivial); k_whole); (intro r' h' tk' F' N' e' p'); (obtain ⟨t', q'⟩ := p'; subst q'); (try dsimp only)))
local macro_rules | `(tactic| walk_at "call ref") => `(tactic| (k_here; k_dflt (refine' Ctr.use c_lshift ?B ?F ?N ?X ?T ?hf ?hk ?hd ?hu ?pre ?_; (case B => k_asm); (case F => k_asm); (case N => k_asm); (case X => k_asm); (case T => k_asm); (case hf => exact rfl); (case hk => exact rfl); (case hd => omega); (case hu => omega); (case pre => first | k_extra "shift" | (refine ⟨?_, ?_, ?_⟩ <;> first | assumption | decide | omega)); k_whole); (intro r' h' tk' F' N' e' p'); (obtain ⟨t', q'⟩ := p'; subst q'); (try dsimp only)))
set_option maxRecDepth 100000 in
set_option maxHeartbeats 4000000 in
theorem law_s16 {w : World} {g h : Heap} {L : Addr} {m : Str → Option Value} {NX : List (Addr × Obj)} {loose : List Str} {mean : ExcName → Option Value} {mg mb : Str → Option Value} {E : Value → Shared → Prop} {Q : Flow → Shared → Prop}
    {dp un tk : Nat} {gd : Option (List Code)} {base : Heap} {gens : Array GenState} {drawn : Drawn} {os : OsState} {rest : List Stmt}
    (B : Below (arnd dp un gd []) base [] g) (X : (hd.heap_39 w.params).In g) (T : Top hd.view_39 loose mean mg mb g) (hd : dp + 50 < recursionLimit) (hu : un + 400 < cLine) (F : Fr g L h m) (N : News g L h NX) {row to lw hw : Addr} {ns ts ls hs : List Int}
    (hN : ImmC NX (L + 1 + 1) (some (.ref row))) (hR : ImmT NX row ns) (hlen : ns.length = 8)
    (hm3 : m (Str.ofString "told") = some (.ref to)) (hto : ImmT NX to ts) (htl : ts.length = 8)
    (hA : ImmC NX (L + 1 + 1 + 1 + 1) (some (.ref lw))) (hB : ImmC NX (L + 1 + 1 + 1 + 1 + 1) (some (.ref hw)))
    (hl : ImmT NX lw ls) (hll : ls.length = 9) (hh : ImmT NX hw hs) (hhl : hs.length = 9)
    (h0 : ∀ i : Nat, i < 8 → 0 ≤ ts.getD (i : Int).toNat 0 ∧ ts.getD (i : Int).toNat 0 ≤ (i : Int))
    (e1 : ∀ i : Nat, i < 8 → ls.getD ((i : Int) + 1).toNat 0 = Builtin.bitOr (1 * 2 ^ (i : Int).toNat) (ls.getD (ts.getD (i : Int).toNat 0).toNat 0))
    (e2 : ∀ i : Nat, i < 8 → hs.getD ((i : Int) + 1).toNat 0 = Builtin.bitAnd (Builtin.bitNot (1 * 2 ^ (i : Int).toNat)) (hs.getD (ts.getD (i : Int).toNat 0).toNat 0))
    (e3 : ∀ i : Nat, i < 8 → Builtin.bitOr (ls.getD ((i : Int) + 1).toNat 0) (ls.getD (ts.getD (i : Int).toNat 0).toNat 0) = ls.getD ((i : Int) + 1).toNat 0)
    (e4 : ∀ i : Nat, i < 8 → Builtin.bitOr (ls.getD ((i : Int) + 1).toNat 0) (hs.getD (ts.getD (i : Int).toNat 0).toNat 0) = -1)
    (e5 : ∀ i : Nat, i < 8 → Builtin.bitAnd (ls.getD ((i : Int) + 1).toNat 0) (hs.getD (ts.getD (i : Int).toNat 0).toNat 0) = 1 * 2 ^ (i : Int).toNat)
    (k : ∀ h' tk' m', Fr g L h' m' → News g L h' NX → (∀ y, y ∉ [Str.ofString "place", Str.ofString "more", Str.ofString "under", Str.ofString "over"] → m' y = m y) →
      wpAny (model PySem.Challenge.rw_rw0006_01.row.prog w) (arnd (dp + 1) (un + 3) gd [lawEnv L]) (execs rest (lawEnv L)) Q (fun e s' => wpAny (model PySem.Challenge.rw_rw0006_01.row.prog w) (arnd (dp + 1) (un + 3) gd [lawEnv L]) (leaving (lawEnv L) e) (fun _ s'' => E e s'') (fun e' s'' => E e' s'') s') ⟨h', gens, drawn, tk', os⟩) :
    wpAny (model PySem.Challenge.rw_rw0006_01.row.prog w) (arnd (dp + 1) (un + 3) gd [lawEnv L]) (execs (lawSt 16 :: rest) (lawEnv L)) Q (fun e s' => wpAny (model PySem.Challenge.rw_rw0006_01.row.prog w) (arnd (dp + 1) (un + 3) gd [lawEnv L]) (leaving (lawEnv L) e) (fun _ s'' => E e s'') (fun e' s'' => E e' s'') s') ⟨h, gens, drawn, tk, os⟩ := by
  k_with_none
  w_top off
  revert X
  k_fill
  intro X
  have KX := X
  show wpAny _ (arnd _ _ _ [(envX _ ⟨_, _, _, _, _⟩ _ _ _ _)]) (execs (Stmt.For _ _ _ _ _ :: _) (envX _ ⟨_, _, _, _, _⟩ _ _ _ _)) _ (fun e s' => wpAny _ (arnd _ _ _ [(envX _ ⟨_, _, _, _, _⟩ _ _ _ _)]) (leaving (envX _ ⟨_, _, _, _, _⟩ _ _ _ _) e) _ _ s') _
  obtain ⟨vs, nR, dR, sR, mR, hi⟩ := hR
  obtain ⟨us, nT, dT, sT, mT, hj⟩ := hto
  obtain ⟨oN, mN, hNd⟩ := hN
  obtain ⟨oA, mA, hAd⟩ := hA
  obtain ⟨oB, mB, hBd⟩ := hB
  obtain ⟨lvs, nl, dl, sl, ml, hil⟩ := hl
  obtain ⟨hvs, nh, dh, sh, mh, hih⟩ := hh
  have hvl := hi.length
  have hul := hj.length
  have hvl2 := hil.length
  have hvl3 := hih.length
  have N1 := (((hds N).on mN).on mR).1
  (k_with "exec For Name Call cons nil" => (k_here; (rename Fr _ _ _ _ => lF'); (with_unfolding_all refine' For_invVF lF' ?k1 ?k2 ?_; (case k1 => exact rfl); (case k2 => exact rfl); k_whole)))
  (k_with "pyIter ref" => refine Hold.out ?_)
  k_steps
  k_with_none
  refine Hold.hold ?_
  (try dsimp only)
  rename IsRange _ _ _ _ _ _ _ _ => R1
  rename Fr _ _ _ _ => F1
  rename News _ _ _ _ => N2
  refine iterRng (n := 8) (news := NX) (SameJ NX m [Str.ofString "place", Str.ofString "more", Str.ofString "under", Str.ofString "over"]) rfl R1 (small_one (by decide) (by decide) (by omega) (by omega)) (by rw [rangeSize_nat]; omega) F1 (subN N2 fun p hp => by (repeat' (first | exact List.Mem.head _ | apply List.Mem.tail)); exact hp) ⟨rfl, fun _ _ => rfl⟩ ?_ ?_
  · intro i kk tk' m₁ news₁ h₁ tk₁ own hin hk hadr hoff hJ F2 N3
    obtain ⟨rfl, hmm⟩ := hJ
    obtain rfl : kk = (i : Int) := by omega
    have F5 := F2.known0 (n := (Str.ofString "told")) (w := .ref to) (by (try dsimp only); (repeat rw [if_neg (by decide)]); rw [hmm _ (by decide)]; exact hm3)
    clear F1 F2 N2 N
    have lft : ∀ {p : Addr × Obj}, p ∈ news₁ → p ∈ news₁ ++ own := fun hp => List.mem_append_left _ hp
    generalize hNY : news₁ ++ own = NY at *
    have N4 := (((((((hds N3).on (lft mN)).on (lft mR)).on (lft mT)).on (lft mA)).on (lft mB)).on (lft ml)).on (lft mh) |>.1
    clear N3
    have z0 := h0 i hin
    have z1 := e1 i hin
    have z2 := e2 i hin
    have z3 := e3 i hin
    have z4 := e4 i hin
    have z5 := e5 i hin
    k_unmd
    k_fold
    k_steps
    k_with_none
    all_goals first
      | (exfalso; contradiction)
      | ((rename Fr _ _ _ _ => F9); (rename News _ _ _ _ => N9); refine InvEndN.intro F9 N9 ⟨rfl, fun y hy => ?_⟩ rfl (fun p hp => ?_) fun p hp => ?_)
    · (try dsimp only)
      repeat' split
      all_goals first
        | (rename_i z; rw [z]; exact hm3.symm)
        | (rename_i z; subst z; exact absurd (by decide) hy)
        | exact hmm y hy
    · have := lft hp
      (repeat' (first | exact List.Mem.head _ | apply List.Mem.tail))
      assumption
    · have := hNY ▸ List.mem_append_right news₁ hp
      (repeat' (first | exact List.Mem.head _ | apply List.Mem.tail))
      assumption
  · intro m₁ news₁ h₁ tk₁ hadr hJ F7 N7
    obtain ⟨rfl, hmm⟩ := hJ
    exact k _ _ m₁ F7 N7 hmm
end Mine
end

section
open PySem PySem.W PyProof.Rows PySem.Calls
namespace Mine
local macro_rules | `(tactic| walk_at "eval ListComp") => `(tactic| k_extra "eval ListComp")
local macro_rules | `(tactic| walk_at "exec Return some") => `(tactic| k_extra "exec Return some")
local macro_rules | `(tactic| walk_at "exec Try") => `(tactic| k_extra "exec Try")
local macro_rules | `(tactic| walk_at "subscriptTail") => `(tactic| k_extra "subscriptTail")
local macro_rules | `(tactic| walk_at "subscriptTail Name UnaryOp ref int") => `(tactic| k_extra "subscriptTail Name UnaryOp ref int")
local macro_rules | `(tactic| walk_at "subscriptTail Name Slice ref ref") => `(tactic| k_extra "subscriptTail Name Slice ref ref")
local macro_rules | `(tactic| walk_at "subscriptTail Name Name ref int") => `(tactic| k_extra "subscriptTail Name Name ref int")
local macro_rules | `(tactic| walk_at "subscriptTail Name BinOp ref int") => `(tactic| k_extra "subscriptTail Name BinOp ref int")
local macro_rules | `(tactic| walk_at "call ref") => `(tactic| k_extra "call ref")
local macro_rules | `(tactic| walk_at "call builtin:sum") => `(tactic| k_extra "call builtin:sum")
local macro_rules | `(tactic| walk_at "call builtin:list.append") => `(tactic| k_extra "call builtin:list.append")
local macro_rules | `(tactic| walk_at "exec While") => `(tactic| k_extra "exec While")
local macro_rules | `(tactic| walk_at "exec While Compare cons nil") => `(tactic| k_extra "exec While Compare cons nil")
local macro_rules | `(tactic| walk_at "exec For") => `(tactic| k_extra "exec For")
local macro_rules | `(tactic| walk_at "exec Assign cons ListComp") => `(tactic| k_extra "exec Assign cons ListComp")
local macro_rules | `(tactic| walk_at "compareOp Eq ref ref") => `(tactic| k_extra "compareOp Eq ref ref")
local macro_rules | `(tactic| walk_at "compareOp NotEq ref ref") => `(tactic| k_extra "compareOp NotEq ref ref")
local macro_rules | `(tactic| walk_at "exec For Name Call cons nil") => `(tactic| k_extra "exec For Name Call cons nil")
local macro_rules | `(tactic| walk_at "exec For Name Name cons nil") => `(tactic| k_extra "exec For Name Name cons nil")
local macro_rules | `(tactic| walk_at "binaryOp Mod int int") => `(tactic| k_extra "binaryOp Mod int int")
local macro_rules | `(tactic| walk_at "subscriptTail Name Call ref int") => `(tactic| k_extra "subscriptTail Name Call ref int")
local macro_rules | `(tactic| walk_at "call ref") => `(tactic| (k_here; k_dflt (refine' Ctr.use c_or ?B ?F ?N ?X ?T ?hf ?hk ?hd ?hu ?pre ?_; (case B => k_asm); (case F => k_asm); (case N => k_asm); (case X => k_asm); (case T => k_asm); (case hf => exact rfl); (case hk => exact rfl); (case hd => omega); (case hu => omega); (case pre => trivial); k_whole); (intro r' h' tk' F' N' e' p'); (obtain ⟨t', q'⟩ := p'; subst q'); (try dsimp only)))
local macro_rules | `(tactic| walk_at "call ref") => `(tactic| (k_here; k_dflt (refine' Ctr.use c_and ?B ?F ?N ?X ?T ?hf ?hk ?hd ?hu ?pre ?_; (case B => k_asm); (case F => k_asm); (case N => k_asm); (case X => k_asm); (case T => k_asm); (case hf => exact rfl); (case hk => exact rfl); (case hd => omega); (case hu => omega); (case pre => trivial); k_whole); (intro r' h' tk' F' N' e' p'); (obtain ⟨t', q'⟩ := p'; subst q'); (try dsimp only)))
local macro_rules | `(tactic| walk_at "call ref") => `(tactic| (k_here; k_dflt (refine' Ctr.use c_inv ?B ?F ?N ?X ?T ?hf ?hk ?hd ?hu ?pre ?_; (case B => k_asm); (case F => k_asm); (case N => k_asm); (case X => k_asm); (case T => k_asm); (case hf => exact rfl); (case hk => exact rfl); (case hd => omega); (case hu => omega); (case pre => trivial); k_whole); (intro r' h' tk' F' N' e' p'); (obtain ⟨t', q'⟩ := p'; subst q'); (try dsimp only)))
local macro_rules | `(tactic| walk_at "call ref") => `(tactic| (k_here; k_dflt (refine' Ctr.use c_lshift ?B ?F ?N ?X ?T ?hf ?hk ?hd ?hu ?pre ?_; (case B => k_asm); (case F => k_asm); (case N => k_asm); (case X => k_asm); (case T => k_asm); (case hf => exact rfl); (case hk => exact rfl); (case hd => omega); (case hu => omega); (case pre => first | k_extra "shift" | (refine ⟨?_, ?_, ?_⟩ <;> first | assumption | decide | omega)); k_whole); (intro r' h' tk' F' N' e' p'); (obtain ⟨t', q'⟩ := p'; subst q'); (try dsimp only)))
local macro_rules | `(tactic| walk_at "call ref") => `(tactic| (k_here; k_dflt (refine' Ctr.use c_ones ?B ?F ?N ?X ?T ?hf ?hk ?hd ?hu ?pre ?_; (case B => k_asm); (case F => k_asm); (case N => k_asm); (case X => k_asm); (case T => k_asm); (case hf => exact rfl); (case hk => exact rfl); (case hd => omega); (case hu => omega); (case pre => assumption); k_whole); (intro r' h' tk' F' N' e' p'); (obtain ⟨t', q'⟩ := p'; subst q'); (try dsimp only)))
local macro_rules | `(tactic| walk_at "call ref") => `(tactic| (k_here; k_dflt (refine' Ctr.use c_noughts ?B ?F ?N ?X ?T ?hf ?hk ?hd ?hu ?pre ?_; (case B => k_asm); (case F => k_asm); (case N => k_asm); (case X => k_asm); (case T => k_asm); (case hf => exact rfl); (case hk => exact rfl); (case hd => omega); (case hu => omega); (case pre => assumption); k_whole); (intro r' h' tk' F' N' e' p'); (obtain ⟨t', q'⟩ := p'; subst q'); (try dsimp only)))
theorem kept_fr {g h h' : Heap} {L : Addr} {m : Str → Option Value} (F : Fr g L h m) (K : KeptBut [L] h h') : Fr g L h' m := F.of_stays (fun b o e => K.1 b o (F.keep b o e) fun z => by
  have h1 := Heap.lt_size e
  rw [List.mem_singleton.mp z] at h1
  exact Nat.lt_irrefl _ (Nat.lt_of_lt_of_le h1 F.above)) K.2
theorem kept_news {g h h' : Heap} {L : Addr} {NX : List (Addr × Obj)} (N : News g L h NX) (K : KeptBut [L] h h') : News g L h' NX := fun p hp =>
  ⟨K.1 _ _ (N p hp).1 fun z => (N p hp).2.1 (List.mem_singleton.mp z), (N p hp).2⟩
set_option maxRecDepth 100000 in
set_option maxHeartbeats 4000000 in
theorem law_s17 {w : World} {g h : Heap} {L : Addr} {m : Str → Option Value} {NX : List (Addr × Obj)} {loose : List Str} {mean : ExcName → Option Value} {mg mb : Str → Option Value} {E : Value → Shared → Prop} {Q : Flow → Shared → Prop}
    {dp un tk : Nat} {gd : Option (List Code)} {base : Heap} {gens : Array GenState} {drawn : Drawn} {os : OsState} {rest : List Stmt}
    (B : Below (arnd dp un gd []) base [] g) (X : (hd.heap_39 w.params).In g) (T : Top hd.view_39 loose mean mg mb g) (hd : dp + 50 < recursionLimit) (hu : un + 400 < cLine) (F : Fr g L h m) (N : News g L h NX) {row to lets mk lw hw : Addr} {ns es ms ds hs : List Int} {lo hi lo2 hi2 : Nat}
    (XB : (Mine.hd.heap_39 w.params).In base) (TB : Top Mine.hd.view_39 loose mean mg mb base)
    (hN : ImmC NX (L + 1 + 1) (some (.ref row))) (hR : ImmI NX row ns lo hi) (hlen : ns.length = 8)
    (hT : ImmC NX (L + 1 + 1 + 1) (some (.ref lets))) (hE : ImmI NX lets es lo2 hi2) (hel : es.length = 4) (hx1 : 1 ≤ lo) (hx2 : hi ≤ lo2) (hx3 : lo ≤ lo2)
    (hm3 : m (Str.ofString "told") = some (.ref to)) (hto : ImmT NX to (tabF ns)) (hm4 : m (Str.ofString "masks") = some (.ref mk)) (hmk : ImmT NX mk ms) (hml : ms.length = 4)
    (hA : ImmC NX (L + 1 + 1 + 1 + 1) (some (.ref lw))) (hB : ImmC NX (L + 1 + 1 + 1 + 1 + 1) (some (.ref hw)))
    (hl : ImmT NX lw ds) (hll : ds.length = 9) (hh : ImmT NX hw hs) (hhl : hs.length = 9)
    (h0 : ∀ i j : Nat, i < 9 → (hj : j < es.length) → 0 ≤ aft ns i es[j] ∧ aft ns i es[j] ≤ 8)
    (b1 : ∀ i : Nat, i < 9 → (ds.getD (i : Int).toNat 0).natAbs < 2 ^ 64) (b2 : ∀ i : Nat, i < 9 → (hs.getD (i : Int).toNat 0).natAbs < 2 ^ 64)
    (e1 : ∀ i j : Nat, i < 9 → (hj : j < es.length) → Builtin.bitAnd (Builtin.bitOr (ds.getD (i : Int).toNat 0 * 2 ^ (1 : Int).toNat) 1) (ms.getD (j : Int).toNat 0) = ds.getD (aft ns i es[j]).toNat 0)
    (e2 : ∀ i j : Nat, i < 9 → (hj : j < es.length) → Builtin.bitOr (hs.getD (i : Int).toNat 0 * 2 ^ (1 : Int).toNat) (Builtin.bitNot (ms.getD (j : Int).toNat 0)) = hs.getD (aft ns i es[j]).toNat 0)
    (k : ∀ h' tk' m', Fr g L h' m' → News g L h' NX →
      wpAny (model PySem.Challenge.rw_rw0006_01.row.prog w) (arnd (dp + 1) (un + 3) gd [lawEnv L]) (execs rest (lawEnv L)) Q (fun e s' => wpAny (model PySem.Challenge.rw_rw0006_01.row.prog w) (arnd (dp + 1) (un + 3) gd [lawEnv L]) (leaving (lawEnv L) e) (fun _ s'' => E e s'') (fun e' s'' => E e' s'') s') ⟨h', gens, drawn, tk', os⟩) :
    wpAny (model PySem.Challenge.rw_rw0006_01.row.prog w) (arnd (dp + 1) (un + 3) gd [lawEnv L]) (execs (lawSt 17 :: rest) (lawEnv L)) Q (fun e s' => wpAny (model PySem.Challenge.rw_rw0006_01.row.prog w) (arnd (dp + 1) (un + 3) gd [lawEnv L]) (leaving (lawEnv L) e) (fun _ s'' => E e s'') (fun e' s'' => E e' s'') s') ⟨h, gens, drawn, tk, os⟩ := by
  k_with_none
  w_top off
  revert X
  k_fill
  intro X
  have KX := X
  show wpAny _ (arnd _ _ _ [(envX _ ⟨_, _, _, _, _⟩ _ _ _ _)]) (execs (Stmt.For _ _ _ _ _ :: _) (envX _ ⟨_, _, _, _, _⟩ _ _ _ _)) _ (fun e s' => wpAny _ (arnd _ _ _ [(envX _ ⟨_, _, _, _, _⟩ _ _ _ _)]) (leaving (envX _ ⟨_, _, _, _, _⟩ _ _ _ _) e) _ _ s') _
  obtain ⟨vs, ⟨nR, mR⟩, hi, hbr⟩ := hR
  obtain ⟨evs, ⟨nE, mE⟩, hie, hbe⟩ := hE
  obtain ⟨us, nT, dT, sT, mT, hj⟩ := hto
  obtain ⟨kvs, nK, dK, sK, mK, hik⟩ := hmk
  obtain ⟨oN, mN, hNd⟩ := hN
  obtain ⟨oT, mT2, hTd⟩ := hT
  obtain ⟨oA, mA, hAd⟩ := hA
  obtain ⟨oB, mB, hBd⟩ := hB
  obtain ⟨lvs, nl, dl, sl, ml, hil⟩ := hl
  obtain ⟨hvs, nh, dh, sh, mh, hih⟩ := hh
  have hvl := hi.length
  have hevl := hie.length
  have hkvl := hik.length
  have hvl2 := hil.length
  have hvl3 := hih.length
  have N1 := (((hds N).on mA).on ml).1
  (k_with "exec For Name Call cons nil" => (k_here; (rename Fr _ _ _ _ => lF'); (with_unfolding_all refine' For_invVF lF' ?k1 ?k2 ?_; (case k1 => exact rfl); (case k2 => exact rfl); k_whole)))
  (k_with "pyIter ref" => refine Hold.out ?_)
  k_steps
  k_with_none
  refine Hold.hold ?_
  (try dsimp only)
  rename IsRange _ _ _ _ _ _ _ _ => R1
  rename Fr _ _ _ _ => F1
  rename News _ _ _ _ => N2
  refine iterRng (n := 9) (news := NX) (SameJ NX m [Str.ofString "place", Str.ofString "t", Str.ofString "target"]) rfl R1 (small_one (by decide) (by decide) (by omega) (by omega)) (by rw [rangeSize_nat]; omega) F1 (subN N2 fun p hp => by (repeat' (first | exact List.Mem.head _ | apply List.Mem.tail)); exact hp) ⟨rfl, fun _ _ => rfl⟩ ?_ ?_
  · intro i kk tki m₁ news₁ h₁ tk₁ own hin hk hadr hoff hJ F2 N3
    obtain ⟨rfl, hmm⟩ := hJ
    obtain rfl : kk = (i : Int) := by omega
    clear F1 N2 N R1
    have lft : ∀ {p : Addr × Obj}, p ∈ news₁ → p ∈ news₁ ++ own := fun hp => List.mem_append_left _ hp
    have rgt : ∀ {p : Addr × Obj}, p ∈ own → p ∈ news₁ ++ own := fun hp => List.mem_append_right _ hp
    generalize hNY : news₁ ++ own = NY at *
    (k_with "exec For Name Call cons nil" => (k_here; (rename Fr _ _ _ _ => lF'); (with_unfolding_all refine' For_invVF lF' ?k1 ?k2 ?_; (case k1 => exact rfl); (case k2 => exact rfl); k_whole)))
    (k_with "pyIter ref" => refine Hold.out ?_)
    k_unmd
    (try k_fold)
    k_steps
    k_with_none
    refine Hold.hold ?_
    (try dsimp only)
    rename IsRange _ _ _ _ _ _ _ _ => R2
    rename Fr _ _ _ _ => F3
    rename News _ _ _ _ => N4
    refine iterRng (n := 4) (news := NY) (SameJ NY (fun y => if y = Str.ofString "place" then some (.int (i : Int) tki) else m₁ y) [Str.ofString "t", Str.ofString "target"]) rfl R2 (small_one (by decide) (by decide) (by decide) (by decide)) (by rw [rangeSize_nat]; rfl) F3 (subN N4 fun p hp => by (repeat' (first | exact List.Mem.head _ | apply List.Mem.tail)); exact hp) ⟨rfl, fun _ _ => rfl⟩ ?_ ?_
    · intro j kk tkj m₂ news₂ h₂ tk₂ own₂ hjn hk hadr hoff hJ F4 N5
      obtain ⟨rfl, hmm2⟩ := hJ
      obtain rfl : kk = (j : Int) := by omega
      have F5 := F4.known0 (n := (Str.ofString "place")) (w := .int (i : Int) tki) (by (try dsimp only); (repeat rw [if_neg (by decide)]); rw [hmm2 _ (by decide)]; rfl)
      have F6 := F5.known0 (n := (Str.ofString "told")) (w := .ref to) (by (try dsimp only); (repeat rw [if_neg (by decide)]); rw [hmm2 _ (by decide)]; (try dsimp only); (repeat rw [if_neg (by decide)]); rw [hmm _ (by decide)]; exact hm3)
      have F7 := F6.known0 (n := (Str.ofString "masks")) (w := .ref mk) (by (try dsimp only); (repeat rw [if_neg (by decide)]); rw [hmm2 _ (by decide)]; (try dsimp only); (repeat rw [if_neg (by decide)]); rw [hmm _ (by decide)]; exact hm4)
      clear F3 F4 F5 F6 N4
      have lft2 : ∀ {p : Addr × Obj}, p ∈ news₁ → p ∈ news₂ ++ own₂ := fun hp => List.mem_append_left _ (lft hp)
      have lft3 : ∀ {p : Addr × Obj}, p ∈ news₂ → p ∈ news₂ ++ own₂ := fun hp => List.mem_append_left _ hp
      generalize hNZ : news₂ ++ own₂ = NZ at *
      have N6 := ((((((((((hds N5).on (lft2 mN)).on (lft2 mR)).on (lft2 mT)).on (lft2 mT2)).on (lft2 mE)).on (lft2 mA)).on (lft2 mB)).on (lft2 ml)).on (lft2 mh)).on (lft2 mK) |>.1
      clear N5
      have hj4 : j < es.length := by omega
      obtain ⟨tj, htj⟩ := hie.get j es[j] (by simp [hj4])
      have hmj := hbe _ tj (List.mem_of_getElem? htj)
      have z0 := h0 i j hin hj4
      have z1 := b1 i hin
      have z2 := b2 i hin
      have z3 := e1 i j hin hj4
      have z4 := e2 i j hin hj4
      (k_with "subscriptTail Name Name ref int" => k_dflt ((with_reducible show wpAny _ _ (subscriptTail _ _ (Value.ref lets) _) _ _ _); refine item_val (k := j) (News.isList (by assumption) (by (repeat' (first | exact List.Mem.head _ | apply List.Mem.tail)))) htj (by omega) (by with_unfolding_all rfl) ?_))
      (k_with "call ref" => k_dflt ((with_reducible show wpAny _ _ (call (Value.ref 92) _) _ _ _); (rename Fr _ _ _ _ => F9); (rename News _ _ _ _ => N9); refine c_after (ns := ns) (vs := vs) (size := i) (sign := es[j]) loose mean mg mb _ _ _ (dp + 1) (un + 3) gd _ base (below_in B F9 rfl rfl) XB TB (by omega) (by omega) ⟨⟨News.isList N9 (by (repeat' (first | exact List.Mem.head _ | apply List.Mem.tail))), hi⟩, hlen⟩ ⟨_, News.isList N9 (by (repeat' (first | exact List.Mem.head _ | apply List.Mem.tail))), hj⟩ (by omega) ⟨Nat.ne_of_gt (Nat.lt_of_lt_of_le hx1 (Nat.le_trans hx3 hmj.1)), fun i' t' hm' => ⟨Nat.ne_of_gt (Nat.lt_of_lt_of_le hx1 (hbr i' t' hm').1), fun z => absurd z (Nat.ne_of_lt (Nat.lt_of_lt_of_le (hbr i' t' hm').2 (Nat.le_trans hx2 hmj.1)))⟩⟩ ?_; intro t9 h9 tk9 K9; have F9' := kept_fr F9 K9; have N9' := kept_news N9 K9; clear F9 N9))
      k_unmd
      k_fold
      k_steps
      k_with_none
      all_goals first
        | (exfalso; contradiction)
        | ((rename Fr _ _ _ _ => F9); (rename News _ _ _ _ => N9); refine InvEndN.intro F9 N9 ⟨rfl, fun y hy => ?_⟩ rfl (fun p hp => ?_) fun p hp => ?_)
      · (try dsimp only)
        have a4 : y ≠ Str.ofString "target" := fun z => hy (by rw [z]; decide)
        have a5 : y ≠ Str.ofString "t" := fun z => hy (by rw [z]; decide)
        by_cases a1 : y = Str.ofString "masks"
        · subst a1
          (repeat (first | rw [if_pos rfl] | rw [if_neg (by decide)]))
          rw [hmm _ (by decide)]; exact hm4.symm
        by_cases a2 : y = Str.ofString "told"
        · subst a2
          (repeat (first | rw [if_pos rfl] | rw [if_neg (by decide)]))
          rw [hmm _ (by decide)]; exact hm3.symm
        have hq := hmm2 y hy
        (try dsimp only at hq)
        simp only [if_neg a1, if_neg a2, if_neg a4, if_neg a5]
        first
          | exact hq
          | (rw [hq]; split <;> rfl)
          | (by_cases a3 : y = Str.ofString "place"
             · simp only [if_pos a3]
             · rw [if_neg a3] at hq ⊢; exact hq)
      · have := lft3 hp
        (repeat' (first | exact List.Mem.head _ | apply List.Mem.tail))
        assumption
      · have := hNZ ▸ List.mem_append_right news₂ hp
        (repeat' (first | exact List.Mem.head _ | apply List.Mem.tail))
        assumption
    · intro m₂ news₂ h₂ tk₂ hadr hJ F7 N7
      obtain ⟨rfl, hmm2⟩ := hJ
      show wpAny _ _ (execs [] _) _ _ _
      refine wpAny_execs_nil ?_
      show InvEndN _ _ _ _ _ _ _
      refine InvEndN.intro F7 N7 ⟨rfl, fun y hy => ?_⟩ rfl (fun p hp => lft hp) fun p hp => rgt hp
      rw [hmm2 y (by simp only [List.mem_cons, not_or] at hy ⊢; exact ⟨hy.2.1, hy.2.2.1, hy.2.2.2⟩)]
      (try dsimp only)
      split
      · rename_i z; subst z; exact absurd (by decide) hy
      · exact hmm y hy
  · intro m₁ news₁ h₁ tk₁ hadr hJ F7 N7
    obtain ⟨rfl, hmm⟩ := hJ
    exact k _ _ m₁ F7 N7
end Mine
end

section
open PySem
namespace Mine
/-- ones at the places of the borders, less one -/
def dN (ns : List Int) (n : Nat) : Nat := bitsN (fun k => decide (Bord ns n (k + 1))) n
theorem dN_bit (ns : List Int) (n k : Nat) : (dN ns n).testBit k = decide (k < n ∧ Bord ns n (k + 1)) := by
  unfold dN
  rw [bitsN_bit]
  exact (Bool.decide_and (k < n) (Bord ns n (k + 1))).symm
theorem dN_lt (ns : List Int) (n : Nat) : dN ns n < 2 ^ n := bitsN_lt _ _
theorem dN_zero (ns : List Int) : dN ns 0 = 0 := rfl
/-- ones at the places of a sign -/
def mN (c : Int) : List Int → Nat
  | [] => 0
  | x :: r => 2 * mN c r + if x = c then 1 else 0
theorem mN_bit (c : Int) : ∀ (l : List Int) (k : Nat), (mN c l).testBit k = decide (l[k]? = some c)
  | [], k => by simp [mN]
  | x :: r, 0 => by
    unfold mN
    rw [Nat.testBit_zero]
    apply decide_eq_decide.mpr
    rw [List.getElem?_cons_zero]
    constructor
    · intro h
      split at h
      · rename_i z; rw [z]
      · omega
    · intro h
      rw [if_pos (Option.some.inj h)]; omega
  | x :: r, k + 1 => by
    unfold mN
    rw [Nat.testBit_succ, List.getElem?_cons_succ, ← mN_bit c r k]
    congr 1
    split <;> omega
/-- one step of the first number -/
def onesN (d m : Nat) : Nat := (2 * d ||| 1) &&& m
theorem onesN_bit (ns : List Int) (n k : Nat) (c : Int) : (onesN (dN ns n) (mN c ns)).testBit k = decide (Bord ns n k ∧ ns[k]? = some c) := by
  unfold onesN
  rw [Nat.testBit_and, mN_bit, Nat.testBit_or, Bool.decide_and]
  congr 1
  cases k with
  | zero =>
    have : (1 : Nat).testBit 0 = true := rfl
    rw [this, Bool.or_true]
    exact (decide_eq_true (Bord.zero ns n)).symm
  | succ k =>
    have e1 : (1 : Nat).testBit (k + 1) = false := by rw [Nat.testBit_succ]; simp
    rw [e1, Bool.or_false, Nat.testBit_succ, show 2 * dN ns n / 2 = dN ns n by omega, dN_bit]
    apply decide_eq_decide.mpr
    exact ⟨fun h => h.2, fun h => ⟨by have := h.1; omega, h⟩⟩
theorem dN_succ (ns : List Int) {n : Nat} {c : Int} (h : ns[n]? = some c) : onesN (dN ns n) (mN c ns) = dN ns (n + 1) := by
  apply Nat.eq_of_testBit_eq
  intro k
  rw [onesN_bit, dN_bit]
  apply decide_eq_decide.mpr
  constructor
  · rintro ⟨a, b⟩
    exact ⟨Nat.lt_succ_of_le a.1, a.grow (h.trans b.symm)⟩
  · rintro ⟨_, b⟩
    obtain ⟨x, y⟩ := b.shrink
    exact ⟨x, y.symm.trans h⟩
theorem find_chain (ns : List Int) (c : Int) : ∀ q, match ((chainL ns q).filter (· < ns.length)).find? (fun k => decide (ns[k]? = some c)) with
    | some k => Bord ns q k ∧ ns[k]? = some c ∧ ∀ j, Bord ns q j → ns[j]? = some c → j ≤ k
    | none => ∀ j, Bord ns q j → ns[j]? ≠ some c := by
  intro q
  induction q using Nat.strongRecOn with
  | _ q ih =>
    have lt_of : ∀ {k : Nat}, ns[k]? = some c → k < ns.length := fun h => (List.getElem?_eq_some_iff.mp h).1
    by_cases hc : ns[q]? = some c
    · have e : ((chainL ns q).filter (· < ns.length)).find? (fun k => decide (ns[k]? = some c)) = some q := by
        by_cases h0 : q = 0
        · subst h0
          rw [chainL_zero, List.filter_cons, if_pos (by simpa using lt_of hc), List.find?_cons, decide_eq_true hc]
        · rw [chainL_pos ns h0, List.filter_cons, if_pos (by simpa using lt_of hc), List.find?_cons, decide_eq_true hc]
      rw [e]
      exact ⟨Bord.self ns q, hc, fun j hj _ => hj.1⟩
    · by_cases h0 : q = 0
      · subst h0
        have e : ((chainL ns 0).filter (· < ns.length)).find? (fun k => decide (ns[k]? = some c)) = none := by
          rw [List.find?_eq_none]
          intro k hk
          have := (List.mem_filter.mp hk).1
          rw [chainL_zero, List.mem_singleton] at this
          subst this
          simpa using hc
        rw [e]
        intro j hj
        have := hj.1
        obtain rfl : j = 0 := by omega
        exact hc
      · have hlt : bd ns q < q := by have := bd_le ns q; omega
        have e : ((chainL ns q).filter (· < ns.length)).find? (fun k => decide (ns[k]? = some c)) = ((chainL ns (bd ns q)).filter (· < ns.length)).find? (fun k => decide (ns[k]? = some c)) := by
          rw [chainL_pos ns h0, List.filter_cons]
          split
          · rw [List.find?_cons, decide_eq_false hc]
          · rfl
        rw [e]
        have := ih _ hlt
        have down : ∀ j, Bord ns q j → ns[j]? = some c → Bord ns (bd ns q) j := fun j hj hcj => by
          have hjq : j ≠ q := fun z => hc (z ▸ hcj)
          have h1 := hj.1
          exact (bd_bord ns q).down hj (bd_max ns hj (by omega))
        split at this
        · rename_i k hk
          exact ⟨(bd_bord ns q).trans this.1, this.2.1, fun j hj hcj => this.2.2 j (down j hj hcj) hcj⟩
        · rename_i hk
          exact fun j hj hcj => this j (down j hj hcj) hcj
theorem ones_aft (ns : List Int) (n : Nat) (c : Int) : ∃ a : Nat, aft ns n c = (a : Int) ∧ a ≤ ns.length ∧ onesN (dN ns n) (mN c ns) = dN ns a := by
  have h := find_chain ns c n
  unfold aft
  show ∃ a : Nat, (match ((chainL ns n).filter (· < ns.length)).find? (fun k => decide (ns[k]? = some c)) with
    | some k => (k : Int) + 1
    | none => 0) = (a : Int) ∧ _
  split at h
  · rename_i k hk
    refine ⟨k + 1, by push_cast; rfl, (List.getElem?_eq_some_iff.mp h.2.1).1, ?_⟩
    apply Nat.eq_of_testBit_eq
    intro j
    rw [onesN_bit, dN_bit]
    apply decide_eq_decide.mpr
    constructor
    · rintro ⟨a, b⟩
      have hj := h.2.2 j a b
      exact ⟨Nat.lt_succ_of_le hj, (h.1.down a hj).grow (h.2.1.trans b.symm)⟩
    · rintro ⟨_, b⟩
      obtain ⟨x, y⟩ := b.shrink
      exact ⟨h.1.trans x, y.symm.trans h.2.1⟩
  · rename_i hk
    refine ⟨0, rfl, Nat.zero_le _, ?_⟩
    apply Nat.eq_of_testBit_eq
    intro j
    rw [onesN_bit, dN_bit]
    apply decide_eq_decide.mpr
    constructor
    · rintro ⟨a, b⟩
      exact absurd b (h j a)
    · rintro ⟨a, _⟩
      exact absurd a (Nat.not_lt_zero _)
theorem dN_table (ns : List Int) (i : Nat) : dN ns (i + 1) = 2 ^ i ||| dN ns (bd ns (i + 1)) := by
  apply Nat.eq_of_testBit_eq
  intro k
  rw [Nat.testBit_or, dN_bit, dN_bit, Nat.testBit_two_pow, ← Bool.decide_or]
  apply decide_eq_decide.mpr
  have hle := bd_le ns (i + 1)
  constructor
  · rintro ⟨a, b⟩
    by_cases e : i = k
    · exact .inl e
    · have hm := bd_max ns b (by omega)
      exact .inr ⟨by omega, (bd_bord ns (i + 1)).down b hm⟩
  · rintro (rfl | ⟨a, b⟩)
    · exact ⟨Nat.lt_succ_self _, Bord.self ns _⟩
    · exact ⟨by omega, (bd_bord ns (i + 1)).trans b⟩
theorem dN_bd_lt (ns : List Int) (i : Nat) : dN ns (bd ns (i + 1)) < 2 ^ i :=
  Nat.lt_of_lt_of_le (dN_lt ns _) (Nat.pow_le_pow_right (by decide) (by have := bd_le ns (i + 1); omega))
theorem dN_table_add (ns : List Int) (i : Nat) : dN ns (i + 1) = 2 ^ i + dN ns (bd ns (i + 1)) := by
  rw [dN_table]
  have := Nat.two_pow_add_eq_or_of_lt (dN_bd_lt ns i) 1
  rw [Nat.mul_one] at this
  exact this.symm
theorem dN_sub (ns : List Int) (i : Nat) : dN ns (i + 1) &&& dN ns (bd ns (i + 1)) = dN ns (bd ns (i + 1)) := by
  rw [dN_table]
  apply Nat.eq_of_testBit_eq
  intro k
  rw [Nat.testBit_and, Nat.testBit_or]
  cases (dN ns (bd ns (i + 1))).testBit k <;> simp
/-- the tables of the beginnings -/
theorem bord_take {ns : List Int} {i j k : Nat} (h : i ≤ j) : Bord (ns.take j) i k ↔ Bord ns i k := by
  unfold Bord
  refine and_congr_right fun hk => forall_congr' fun q => forall_congr' fun hq => ?_
  rw [List.getElem?_take_of_lt (by omega), List.getElem?_take_of_lt (by omega)]
theorem maxB_congr {p q : Nat → Bool} (k : Nat) (h : ∀ j, p j = q j) : maxB p k = maxB q k := by rw [show p = q from funext h]
theorem bd_take {ns : List Int} {i j : Nat} (h : i ≤ j) : bd (ns.take j) i = bd ns i := maxB_congr _ fun _ => decide_eq_decide.mpr (bord_take h)
theorem tabF_take (ns : List Int) (j : Nat) : tabF (ns.take j) = (tabF ns).take j := by
  apply List.ext_getElem?
  intro p
  unfold tabF
  rw [List.getElem?_take]
  by_cases hp : p < j
  · rw [if_pos hp, List.getElem?_map, List.getElem?_map, List.length_take]
    by_cases hq : p < ns.length
    · rw [List.getElem?_range (by omega), List.getElem?_range hq]
      simp only [Option.map_some]
      rw [bd_take (by omega)]
    · rw [List.getElem?_eq_none (by simp; omega), List.getElem?_eq_none (by simp; omega)]
      rfl
  · rw [if_neg hp, List.getElem?_eq_none (by simp; omega)]
end Mine
end

section
open PySem
namespace Mine
theorem getD_mapR {α : Type} (f : Nat → α) (d : α) {n i : Nat} (h : i < n) : ((List.range n).map f).getD i d = f i := by
  simp [List.getD_eq_getElem?_getD, h]
theorem get_mapR {α : Type} (f : Nat → α) {n i : Nat} (h : i < n) : ((List.range n).map f)[i]? = some (f i) := by
  simp [h]
theorem maskV_mN (c : Int) : ∀ l : List Int, maskV c l.reverse = (mN c l : Int)
  | [] => rfl
  | x :: r => by
    rw [List.reverse_cons, maskV_snoc, maskV_mN c r]
    show _ = ((2 * mN c r + if x = c then 1 else 0 : Nat) : Int)
    push_cast
    split <;> rfl
theorem onesZ (d m : Nat) : Builtin.bitAnd (Builtin.bitOr ((d : Int) * 2 ^ (1 : Int).toNat) 1) (m : Int) = (onesN d m : Int) := by
  have e : (d : Int) * 2 ^ (1 : Int).toNat = ((2 * d : Nat) : Int) := by
    rw [show (1 : Int).toNat = 1 from rfl]; push_cast; omega
  rw [e, show (1 : Int) = ((1 : Nat) : Int) from rfl, or_nn, and_nn]
  rfl
theorem noughtsZ (d m : Nat) : Builtin.bitOr (Builtin.bitNot (d : Int) * 2 ^ (1 : Int).toNat) (Builtin.bitNot (m : Int)) = Builtin.bitNot (onesN d m : Int) := by
  have e : Builtin.bitNot (d : Int) * 2 ^ (1 : Int).toNat = Builtin.bitNot ((2 * d ||| 1 : Nat) : Int) := by
    rw [or_even, show (1 : Int).toNat = 1 from rfl]
    unfold Builtin.bitNot
    push_cast; omega
  rw [e, or_pp]
  rfl
section
variable (sc : List Int)
def nsL : List Int := (List.range 8).map fun i => 1000 + sc.sum + rowM sc i
def esL : List Int := (List.range 4).map fun i : Nat => 1000 + sc.sum + (i : Int)
def msL : List Int := (List.range 4).map fun i => maskV ((esL sc).getD i 0) (nsL sc).reverse
def rL (i : Nat) : Nat := (rowM sc i).toNat
def fsL : List Int := (List.range 8).map fun i => (rL sc i : Int)
def dL (i : Nat) : Int := (dN (nsL sc) i : Int)
def hL (i : Nat) : Int := Builtin.bitNot (dL sc i)
def lowL : List Int := (List.range 9).map (dL sc)
def highL : List Int := (List.range 9).map (hL sc)
theorem nsL_length : (nsL sc).length = 8 := by simp [nsL]
theorem esL_length : (esL sc).length = 4 := by simp [esL]
theorem msL_length : (msL sc).length = 4 := by simp [msL]
theorem fsL_length : (fsL sc).length = 8 := by simp [fsL]
theorem lowL_length : (lowL sc).length = 9 := by simp [lowL]
theorem highL_length : (highL sc).length = 9 := by simp [highL]
theorem rL_lt (i : Nat) : rL sc i < 4 ∧ (rL sc i : Int) = rowM sc i := by
  have := rowM_bound sc i
  unfold rL
  omega
theorem esL_get {j : Nat} (h : j < 4) : (esL sc)[j]? = some (1000 + sc.sum + (j : Int)) := get_mapR _ h
theorem nsL_get {j : Nat} (h : j < 8) : (nsL sc)[j]? = some (1000 + sc.sum + rowM sc j) := get_mapR _ h
theorem hidxL (j : Nat) (x : Int) (h : (nsL sc)[j]? = some x) : (esL sc)[rL sc j]? = some x ∧ ∀ i, i < rL sc j → (esL sc)[i]? ≠ some x := by
  have hj : j < 8 := by have := (List.getElem?_eq_some_iff.mp h).1; rwa [nsL_length] at this
  rw [nsL_get sc hj] at h
  obtain rfl := Option.some.inj h
  have hr := rL_lt sc j
  refine ⟨by rw [esL_get sc hr.1, hr.2], fun i hi z => ?_⟩
  rw [esL_get sc (by omega)] at z
  have := Option.some.inj z
  omega
theorem hfsL (x : Int) (h : x ∈ fsL sc) : 0 ≤ x ∧ x < 4 := by
  obtain ⟨i, _, rfl⟩ := List.mem_map.mp h
  have := rL_lt sc i
  omega
theorem msL_get {j : Nat} (h : j < 4) : (msL sc).getD j 0 = (mN (1000 + sc.sum + (j : Int)) (nsL sc) : Int) := by
  unfold msL
  rw [getD_mapR _ _ h, List.getD_eq_getElem?_getD, esL_get sc h, Option.getD_some, maskV_mN]
theorem msL_found {i : Nat} (h : i < 8) : (msL sc).getD ((fsL sc).getD i 0).toNat 0 = (mN (1000 + sc.sum + rowM sc i) (nsL sc) : Int) := by
  have hr := rL_lt sc i
  rw [show (fsL sc).getD i 0 = (rL sc i : Int) from getD_mapR _ _ h, Int.toNat_natCast, msL_get sc hr.1, hr.2]
theorem dL_zero : dL sc 0 = 0 := rfl
theorem hL_zero : hL sc 0 = Builtin.bitNot 0 := rfl
theorem dL_succ (i : Nat) (h : i < 8) : dL sc (i + 1) = Builtin.bitAnd (Builtin.bitOr (dL sc i * 2 ^ (1 : Int).toNat) 1) ((msL sc).getD ((fsL sc).getD i 0).toNat 0) := by
  rw [msL_found sc h]
  unfold dL
  rw [onesZ, dN_succ _ (nsL_get sc h)]
theorem hL_succ (i : Nat) (h : i < 8) : hL sc (i + 1) = Builtin.bitOr (hL sc i * 2 ^ (1 : Int).toNat) (Builtin.bitNot ((msL sc).getD ((fsL sc).getD i 0).toNat 0)) := by
  rw [msL_found sc h]
  unfold hL dL
  rw [noughtsZ, dN_succ _ (nsL_get sc h)]
theorem dN_small (i : Nat) (h : i ≤ 8) : dN (nsL sc) i < 256 := Nat.lt_of_lt_of_le (dN_lt _ i) (Nat.le_trans (Nat.pow_le_pow_right (by decide) h) (by decide))
theorem dL_small (i : Nat) (h : i ≤ 8) : (dL sc i).natAbs < 2 ^ 64 := by
  have := dN_small sc i h
  unfold dL
  omega
theorem hL_small (i : Nat) (h : i ≤ 8) : (hL sc i).natAbs < 2 ^ 64 := by
  have := dN_small sc i h
  unfold hL dL Builtin.bitNot
  omega
theorem lowL_get {i : Nat} (h : i < 9) : (lowL sc).getD i 0 = dL sc i := getD_mapR _ _ h
theorem highL_get {i : Nat} (h : i < 9) : (highL sc).getD i 0 = hL sc i := getD_mapR _ _ h
theorem mapR_congr {α : Type} {f g : Nat → α} {n : Nat} (h : ∀ i, i < n → f i = g i) : (List.range n).map f = (List.range n).map g :=
  List.map_congr_left fun i hi => h i (List.mem_range.mp hi)
theorem mapR_const (v : Int) (n : Nat) : (List.range n).map (fun _ => v) = List.replicate n v := List.eq_replicate_iff.mpr ⟨by simp, fun b hb => by obtain ⟨_, _, rfl⟩ := List.mem_map.mp hb; rfl⟩
theorem turnedL : (List.range 9).map (fun i => Builtin.bitNot ((highL sc).getD i 0)) = lowL sc := mapR_congr fun i hi => by
  rw [highL_get sc hi]; exact not_not_i _
theorem sharedL : (List.range 9).map (fun i => Builtin.bitAnd ((lowL sc).getD i 0) ((highL sc).getD i 0)) = List.replicate 9 0 := by
  rw [← mapR_const]
  refine mapR_congr fun i hi => ?_
  rw [highL_get sc hi, lowL_get sc hi]
  unfold hL dL
  rw [and_np, Nat.and_self]; omega
theorem beyondL : (List.range 9).map (fun i => Builtin.bitAnd ((lowL sc).getD i 0) (Builtin.bitNot 0 * 2 ^ i)) = List.replicate 9 0 := by
  rw [← mapR_const]
  refine mapR_congr fun i hi => ?_
  rw [lowL_get sc hi]
  unfold dL
  have hp : 0 < 2 ^ i := Nat.pow_pos (by decide)
  have e : Builtin.bitNot 0 * 2 ^ i = Builtin.bitNot ((2 ^ i - 1 : Nat) : Int) := by
    unfold Builtin.bitNot
    rw [Int.ofNat_sub hp]
    push_cast
    omega
  rw [e, and_np, Nat.and_two_pow_sub_one_eq_mod, Nat.mod_eq_of_lt (dN_lt _ i)]; omega
theorem filledL : (List.range 9).map (fun i => Builtin.bitOr ((lowL sc).getD i 0) ((highL sc).getD i 0)) = List.replicate 9 (-1) := by
  rw [← mapR_const]
  refine mapR_congr fun i hi => ?_
  rw [highL_get sc hi, lowL_get sc hi]
  unfold hL dL
  rw [or_np, Nat.and_self]
  unfold Builtin.bitNot
  omega
/-- what the table tells -/
theorem toldL_length : (tabF (nsL sc)).length = 8 := by rw [tabF_length, nsL_length]
theorem toldL {i : Nat} (h : i < 8) : (tabF (nsL sc)).getD (i : Int).toNat 0 = (bd (nsL sc) (i + 1) : Int) := by
  rw [Int.toNat_natCast]
  unfold tabF
  rw [nsL_length]
  exact getD_mapR _ _ h
theorem s16_0 (i : Nat) (h : i < 8) : 0 ≤ (tabF (nsL sc)).getD (i : Int).toNat 0 ∧ (tabF (nsL sc)).getD (i : Int).toNat 0 ≤ (i : Int) := by
  rw [toldL sc h]
  have := bd_le (nsL sc) (i + 1)
  omega
theorem lowL_told (i : Nat) (h : i < 8) : (lowL sc).getD ((tabF (nsL sc)).getD (i : Int).toNat 0).toNat 0 = (dN (nsL sc) (bd (nsL sc) (i + 1)) : Int) := by
  rw [toldL sc h, Int.toNat_natCast, lowL_get sc (by have := bd_le (nsL sc) (i + 1); omega)]
  rfl
theorem highL_told (i : Nat) (h : i < 8) : (highL sc).getD ((tabF (nsL sc)).getD (i : Int).toNat 0).toNat 0 = Builtin.bitNot (dN (nsL sc) (bd (nsL sc) (i + 1)) : Int) := by
  rw [toldL sc h, Int.toNat_natCast, highL_get sc (by have := bd_le (nsL sc) (i + 1); omega)]
  rfl
theorem lowL_next (i : Nat) (h : i < 8) : (lowL sc).getD ((i : Int) + 1).toNat 0 = (dN (nsL sc) (i + 1) : Int) := by
  rw [show ((i : Int) + 1).toNat = i + 1 by omega, lowL_get sc (by omega)]; rfl
theorem highL_next (i : Nat) (h : i < 8) : (highL sc).getD ((i : Int) + 1).toNat 0 = Builtin.bitNot (dN (nsL sc) (i + 1) : Int) := by
  rw [show ((i : Int) + 1).toNat = i + 1 by omega, highL_get sc (by omega)]; rfl
theorem pow_cast (i : Nat) : (1 : Int) * 2 ^ (i : Int).toNat = ((2 ^ i : Nat) : Int) := by
  rw [Int.toNat_natCast, Int.one_mul]; push_cast; rfl
theorem s16_1 (i : Nat) (h : i < 8) : (lowL sc).getD ((i : Int) + 1).toNat 0 = Builtin.bitOr (1 * 2 ^ (i : Int).toNat) ((lowL sc).getD ((tabF (nsL sc)).getD (i : Int).toNat 0).toNat 0) := by
  rw [lowL_told sc i h, lowL_next sc i h, pow_cast, or_nn, ← dN_table]
theorem s16_2 (i : Nat) (h : i < 8) : (highL sc).getD ((i : Int) + 1).toNat 0 = Builtin.bitAnd (Builtin.bitNot (1 * 2 ^ (i : Int).toNat)) ((highL sc).getD ((tabF (nsL sc)).getD (i : Int).toNat 0).toNat 0) := by
  rw [highL_told sc i h, highL_next sc i h, pow_cast, and_pp, ← dN_table]
theorem s16_3 (i : Nat) (h : i < 8) : Builtin.bitOr ((lowL sc).getD ((i : Int) + 1).toNat 0) ((lowL sc).getD ((tabF (nsL sc)).getD (i : Int).toNat 0).toNat 0) = (lowL sc).getD ((i : Int) + 1).toNat 0 := by
  rw [lowL_told sc i h, lowL_next sc i h, or_nn, dN_table, Nat.or_assoc, Nat.or_self]
theorem s16_4 (i : Nat) (h : i < 8) : Builtin.bitOr ((lowL sc).getD ((i : Int) + 1).toNat 0) ((highL sc).getD ((tabF (nsL sc)).getD (i : Int).toNat 0).toNat 0) = -1 := by
  rw [highL_told sc i h, lowL_next sc i h, or_np, Nat.and_comm, dN_sub]
  unfold Builtin.bitNot
  omega
theorem s16_5 (i : Nat) (h : i < 8) : Builtin.bitAnd ((lowL sc).getD ((i : Int) + 1).toNat 0) ((highL sc).getD ((tabF (nsL sc)).getD (i : Int).toNat 0).toNat 0) = 1 * 2 ^ (i : Int).toNat := by
  rw [highL_told sc i h, lowL_next sc i h, and_np, dN_sub, pow_cast, dN_table_add]
  push_cast
  omega
theorem esL_elem {j : Nat} (hj : j < (esL sc).length) : (esL sc)[j] = 1000 + sc.sum + (j : Int) := by
  have h4 : j < 4 := by rwa [esL_length] at hj
  have := esL_get sc h4
  rw [List.getElem?_eq_getElem hj] at this
  exact Option.some.inj this
theorem s17_0 (i j : Nat) (_ : i < 9) (hj : j < (esL sc).length) : 0 ≤ aft (nsL sc) i (esL sc)[j] ∧ aft (nsL sc) i (esL sc)[j] ≤ 8 := by
  obtain ⟨a, e, h1, _⟩ := ones_aft (nsL sc) i ((esL sc)[j]'hj)
  rw [nsL_length] at h1
  rw [e]; omega
theorem s17_1 (i j : Nat) (h : i < 9) (hj : j < (esL sc).length) : Builtin.bitAnd (Builtin.bitOr ((lowL sc).getD (i : Int).toNat 0 * 2 ^ (1 : Int).toNat) 1) ((msL sc).getD (j : Int).toNat 0) = (lowL sc).getD (aft (nsL sc) i (esL sc)[j]).toNat 0 := by
  have h4 : j < 4 := by rwa [esL_length] at hj
  obtain ⟨a, e, h1, h2⟩ := ones_aft (nsL sc) i ((esL sc)[j]'hj)
  rw [nsL_length] at h1
  have e3 : (aft (nsL sc) i ((esL sc)[j]'hj)).toNat = a := by rw [e]; rfl
  rw [e3, Int.toNat_natCast, Int.toNat_natCast, lowL_get sc h, lowL_get sc (i := a) (by omega), msL_get sc h4]
  rw [esL_elem sc hj] at h2
  unfold dL
  rw [onesZ, h2]
theorem s17_2 (i j : Nat) (h : i < 9) (hj : j < (esL sc).length) : Builtin.bitOr ((highL sc).getD (i : Int).toNat 0 * 2 ^ (1 : Int).toNat) (Builtin.bitNot ((msL sc).getD (j : Int).toNat 0)) = (highL sc).getD (aft (nsL sc) i (esL sc)[j]).toNat 0 := by
  have h4 : j < 4 := by rwa [esL_length] at hj
  obtain ⟨a, e, h1, h2⟩ := ones_aft (nsL sc) i ((esL sc)[j]'hj)
  rw [nsL_length] at h1
  have e3 : (aft (nsL sc) i ((esL sc)[j]'hj)).toNat = a := by rw [e]; rfl
  rw [e3, Int.toNat_natCast, Int.toNat_natCast, highL_get sc h, highL_get sc (i := a) (by omega), msL_get sc h4]
  rw [esL_elem sc hj] at h2
  unfold hL dL
  rw [noughtsZ, h2]
theorem s17_b1 (i : Nat) (h : i < 9) : ((lowL sc).getD (i : Int).toNat 0).natAbs < 2 ^ 64 := by
  rw [Int.toNat_natCast, lowL_get sc h]; exact dL_small sc i (by omega)
theorem s17_b2 (i : Nat) (h : i < 9) : ((highL sc).getD (i : Int).toNat 0).natAbs < 2 ^ 64 := by
  rw [Int.toNat_natCast, highL_get sc h]; exact hL_small sc i (by omega)
end
end Mine
end

section
open PySem PySem.W PyProof.Rows PySem.Calls
namespace Mine
theorem lawBody_eq : lawBody = [lawSt 0, lawSt 1, lawSt 2, lawSt 3, lawSt 4, lawSt 5, lawSt 6, lawSt 7, lawSt 8, lawSt 9, lawSt 10, lawSt 11, lawSt 12, lawSt 13, lawSt 14, lawSt 15, lawSt 16, lawSt 17, lawSt 18] := rfl
theorem L_ne {a b : Nat} (h : a < b) : a ≠ b := Nat.ne_of_lt h
set_option maxRecDepth 100000 in
set_option maxHeartbeats 4000000 in
theorem law_body {w : World} {g h : Heap} {L : Addr} {m : Str → Option Value} {NX : List (Addr × Obj)} {loose : List Str} {mean : ExcName → Option Value} {mg mb : Str → Option Value} {E : Value → Shared → Prop} {Q : Flow → Shared → Prop}
    {dp un tk : Nat} {gd : Option (List Code)} {base : Heap} {gens : Array GenState} {drawn : Drawn} {os : OsState} {script : Addr} {sc : List Int}
    (B : Below (arnd dp un gd []) base [] g) (XB : (hd.heap_39 w.params).In base) (TB : Top hd.view_39 loose mean mg mb base) (hd : dp + 50 < recursionLimit) (hu : un + 400 < cLine) (F : Fr g L h m) (N : News g L h NX)
    (c1 : ImmC NX (L + 1) (some (.ref script))) (c2 : ImmC NX (L + 1 + 1) none) (c3 : ImmC NX (L + 1 + 1 + 1) none) (c4 : ImmC NX (L + 1 + 1 + 1 + 1) none) (c5 : ImmC NX (L + 1 + 1 + 1 + 1 + 1) none)
    (hs : IntL g script sc) (hlen : sc.length ≤ 63) (ht : 1 ≤ tk)
    (k : ∀ h' tk' m', Fr g L h' m' → Q (.ret (.bool true)) ⟨h', gens, drawn, tk', os⟩) :
    wpAny (model PySem.Challenge.rw_rw0006_01.row.prog w) (arnd (dp + 1) (un + 3) gd [lawEnv L]) (execs lawBody (lawEnv L)) Q (fun e s' => wpAny (model PySem.Challenge.rw_rw0006_01.row.prog w) (arnd (dp + 1) (un + 3) gd [lawEnv L]) (leaving (lawEnv L) e) (fun _ s'' => E e s'') (fun e' s'' => E e' s'') s') ⟨h, gens, drawn, tk, os⟩ := by
  have X := XB.keeps B.stays
  have T := TB.keeps B.stays
  have o12 : L + 1 ≠ L + 1 + 1 := L_ne (by omega)
  have o13 : L + 1 ≠ L + 1 + 1 + 1 := L_ne (by omega)
  have o23 : L + 1 + 1 ≠ L + 1 + 1 + 1 := L_ne (by omega)
  have o24 : L + 1 + 1 ≠ L + 1 + 1 + 1 + 1 := L_ne (by omega)
  have o25 : L + 1 + 1 ≠ L + 1 + 1 + 1 + 1 + 1 := L_ne (by omega)
  have o34 : L + 1 + 1 + 1 ≠ L + 1 + 1 + 1 + 1 := L_ne (by omega)
  have o35 : L + 1 + 1 + 1 ≠ L + 1 + 1 + 1 + 1 + 1 := L_ne (by omega)
  rw [lawBody_eq]
  -- line
  refine law_s0 B X T hd hu F N c1 c2 hs hlen ht ?_
  intro h1 tk1 row NX1 F1 N1 k1 d2 iR le1
  have d1 := c1.but o12 k1
  have d3 := c3.but (Ne.symm o23) k1
  have d4 := c4.but (Ne.symm o24) k1
  have d5 := c5.but (Ne.symm o25) k1
  have iR : ImmI NX1 row (nsL sc) 1 tk1 := iR
  clear c1 c2 c3 c4 c5 k1 N F
  -- pieces
  refine law_s1 B X T hd hu F1 N1 d2 iR (nsL_length sc) ?_
  intro h2 tk2 P NX2 F2 N2 k2 lP le2
  -- tables
  refine law_s2 B X T hd hu F2 N2 (P := P) (by ((repeat (first | rw [if_neg (by decide)] | dsimp only)); first | exact if_pos rfl | rfl | assumption)) lP (nsL_length sc) ?_
  intro h3 tk3 Tb NX3 F3 N3 k3 lT le3
  have lP3 := lP.mono k3
  -- told
  refine law_s3 B X T hd hu F3 N3 (P := Tb) (by ((repeat (first | rw [if_neg (by decide)] | dsimp only)); first | exact if_pos rfl | rfl | assumption)) lT ?_
  intro h4 tk4 to F4 N4 iT le4
  have kk : ∀ p ∈ NX1, p ∈ NX3 := fun p hp => k3 p (k2 p hp)
  have iT : ImmT NX3 to (tabF (nsL sc)) := by
    have e : (nsL sc).take 8 = nsL sc := List.take_of_length_le (by rw [nsL_length]; exact Nat.le_refl 8)
    rw [e] at iT; exact iT
  have iR3 := iR.mono kk
  -- the checks
  refine law_s4 B X T hd hu F4 N4 (ns := nsL sc) (ts := tabF (nsL sc)) (d2.mono kk) iR3.t (nsL_length sc) (by ((repeat (first | rw [if_neg (by decide)] | dsimp only)); first | exact if_pos rfl | rfl | assumption)) (by ((repeat (first | rw [if_neg (by decide)] | dsimp only)); first | exact if_pos rfl | rfl | assumption)) (by ((repeat (first | rw [if_neg (by decide)] | dsimp only)); first | exact if_pos rfl | rfl | assumption)) lP3 lT iT (toldL_length sc) (fun j hj => tabF_take (nsL sc) j) ?_
  intro h5 tk5 m5 F5 N5 hm5 le5
  have t5 : m5 (Str.ofString "told") = some (.ref to) := by rw [hm5 _ (by decide)]; ((repeat (first | rw [if_neg (by decide)] | dsimp only)); first | exact if_pos rfl | rfl | assumption)
  clear F1 F2 F3 F4 N1 N2 N4 lP3 lP hm5
  -- letters
  refine law_s5 B X T hd hu F5 N5 (d1.mono kk) (d3.mono kk) hs hlen ?_
  intro h6 tk6 lets NX6 F6 N6 k6 e3 iE le6
  have e1 := (d1.mono kk).but o13 k6
  have e2 := (d2.mono kk).but o23 k6
  have e4 := (d4.mono kk).but (Ne.symm o34) k6
  have e5 := (d5.mono kk).but (Ne.symm o35) k6
  have iR6 := iR3.cell (d3.mono kk) N5 k6
  have iT6 := iT.cell (d3.mono kk) N5 k6
  have iE : ImmI NX6 lets (esL sc) tk5 tk6 := iE
  clear d1 d2 d3 d4 d5 F5 N5 lT iR3 iT iR
  -- masks
  refine law_s6 B X T hd hu F6 N6 e2 iR6.t (nsL_length sc) e3 iE.t (esL_length sc) ?_
  intro h7 tk7 mk NX7 F7 N7 k7 iM le7
  have iM : ImmT NX7 mk (msL sc) := iM
  -- found
  refine law_s7 B X T hd hu F7 N7 (r := rL sc) (e2.mono k7) (iR6.mono k7) (nsL_length sc) (e3.mono k7) (iE.mono k7) (esL_length sc) (Nat.le_refl 1) (by omega) (by omega) (hidxL sc) ?_
  intro h8 tk8 fo NX8 F8 N8 k8 iF le8
  have iF : ImmT NX8 fo (fsL sc) := iF
  have k68 : ∀ p ∈ NX6, p ∈ NX8 := fun p hp => k8 p (k7 p hp)
  -- lows, highs
  refine law_s8 B X T hd hu F8 N8 (e4.mono k68) (e5.mono k68) ?_
  intro h9 tk9 lw hw NX9 F9 N9 k9 f4 f5 hlh hnew al ah le9
  have iR8 := iR6.mono k68
  have iT8 := iT6.mono k68
  have iE8 := iE.mono k68
  have iM8 := iM.mono k8
  have two : ∀ {l : Addr} {ns : List Int}, ImmT NX8 l ns → (ImmT NX9 l ns ∧ l ≠ lw ∧ l ≠ hw) := fun {l ns} x => by
    have n4 := x.ne_cell (e4.mono k68) N8
    have n5 := x.ne_cell (e5.mono k68) N8
    obtain ⟨vs, n, d, sl, mm, i⟩ := x
    exact ⟨⟨vs, n, d, sl, k9 _ mm n4 n5, i⟩, hnew _ mm⟩
  have twoI : ∀ {l : Addr} {ns : List Int} {lo hi : Nat}, ImmI NX8 l ns lo hi → (ImmI NX9 l ns lo hi ∧ l ≠ lw ∧ l ≠ hw) := fun {l ns lo hi} x => by
    have n4 := x.t.ne_cell (e4.mono k68) N8
    have n5 := x.t.ne_cell (e5.mono k68) N8
    obtain ⟨vs, ⟨n, mm⟩, i⟩ := x
    exact ⟨⟨vs, ⟨n, k9 _ mm n4 n5⟩, i⟩, hnew _ mm⟩
  have twoC : ∀ {c : Addr} {v : Option Value}, ImmC NX8 c v → c ≠ L + 1 + 1 + 1 + 1 → c ≠ L + 1 + 1 + 1 + 1 + 1 → (ImmC NX9 c v ∧ c ≠ lw ∧ c ≠ hw) := fun {c v} x n4 n5 => by
    obtain ⟨o, mm, i⟩ := x
    exact ⟨⟨o, k9 _ mm n4 n5, i⟩, hnew _ mm⟩
  have p2 := twoC (e2.mono k68) o24 o25
  have p3 := twoC (e3.mono k68) o34 o35
  have qR := twoI iR8
  have qE := twoI iE8
  have qT := two iT8
  have qM := two iM8
  have qF := two iF
  -- the loop
  refine law_s9 B X T hd hu F9 N9 (D := dL sc) (H := hL sc) (fs := fsL sc) (ms := msL sc) (fo := fo) (mk := mk) (by ((repeat (first | rw [if_neg (by decide)] | dsimp only)); first | exact if_pos rfl | rfl | assumption)) (by ((repeat (first | rw [if_neg (by decide)] | dsimp only)); first | exact if_pos rfl | rfl | assumption)) qF.1 (fsL_length sc) qM.1 (msL_length sc) (hfsL sc) f4 f5 hlh ⟨qF.2, qM.2⟩ al ah (dL_succ sc) (hL_succ sc) (dL_small sc) (hL_small sc) ?_
  intro h10 tk10 m10 NX10 F10 hm10 N10 k10 iL iH
  have iL : ImmT NX10 lw (lowL sc) := iL
  have iH : ImmT NX10 hw (highL sc) := iH
  have g2 := p2.1.but2 p2.2.1 p2.2.2 k10
  have g3 := p3.1.but2 p3.2.1 p3.2.2 k10
  have g4 := f4.but2 (fun z => al.elim fun t q => q.ne_cell f4 N9 z.symm) (fun z => ah.elim fun t q => q.ne_cell f4 N9 z.symm) k10
  have g5 := f5.but2 (fun z => al.elim fun t q => q.ne_cell f5 N9 z.symm) (fun z => ah.elim fun t q => q.ne_cell f5 N9 z.symm) k10
  have jT := qT.1.but2 qT.2.1 qT.2.2 k10
  have jM := qM.1.but2 qM.2.1 qM.2.2 k10
  have jF := qF.1.but2 qF.2.1 qF.2.2 k10
  have jR : ImmI NX10 row (nsL sc) 1 tk1 := let ⟨vs, ⟨n, mm⟩, i⟩ := qR.1; ⟨vs, ⟨n, k10 _ mm qR.2.1 qR.2.2⟩, i⟩
  have jE : ImmI NX10 lets (esL sc) tk5 tk6 := let ⟨vs, ⟨n, mm⟩, i⟩ := qE.1; ⟨vs, ⟨n, k10 _ mm qE.2.1 qE.2.2⟩, i⟩
  have t10 : m10 (Str.ofString "told") = some (.ref to) := by rw [hm10 _ (by decide)]; ((repeat (first | rw [if_neg (by decide)] | dsimp only)); first | exact if_pos rfl | rfl | assumption)
  have u10 : m10 (Str.ofString "masks") = some (.ref mk) := by rw [hm10 _ (by decide)]; ((repeat (first | rw [if_neg (by decide)] | dsimp only)); first | exact if_pos rfl | rfl | assumption)
  have v10 : m10 (Str.ofString "found") = some (.ref fo) := by rw [hm10 _ (by decide)]; ((repeat (first | rw [if_neg (by decide)] | dsimp only)); first | exact if_pos rfl | rfl | assumption)
  clear F6 F7 F8 F9 N6 N7 N8 N9 two twoI twoC
  -- turned, shared, beyond, filled
  refine law_s10 B X T hd hu F10 N10 (ls := lowL sc) (hs := highL sc) g4 iL (lowL_length sc) g5 iH (highL_length sc) ?_
  intro h11 tk11 tu NX11 F11 N11 k11 i1 _
  rw [turnedL] at i1
  refine law_s11 B X T hd hu F11 N11 (ls := lowL sc) (hs := highL sc) (g4.mono k11) (iL.mono k11) (lowL_length sc) (g5.mono k11) (iH.mono k11) (highL_length sc) ?_
  intro h12 tk12 sh NX12 F12 N12 k12 i2 _
  rw [sharedL] at i2
  have k1012 : ∀ p ∈ NX10, p ∈ NX12 := fun p hp => k12 p (k11 p hp)
  refine law_s12 B X T hd hu F12 N12 (ls := lowL sc) (hs := highL sc) (g4.mono k1012) (iL.mono k1012) (lowL_length sc) (g5.mono k1012) (iH.mono k1012) (highL_length sc) ?_
  intro h13 tk13 be NX13 F13 N13 k13 i3 _
  rw [beyondL] at i3
  have k1013 : ∀ p ∈ NX10, p ∈ NX13 := fun p hp => k13 p (k1012 p hp)
  refine law_s13 B X T hd hu F13 N13 (ls := lowL sc) (hs := highL sc) (g4.mono k1013) (iL.mono k1013) (lowL_length sc) (g5.mono k1013) (iH.mono k1013) (highL_length sc) ?_
  intro h14 tk14 fi NX14 F14 N14 k14 i4 _
  rw [filledL] at i4
  have kz : ∀ p ∈ NX10, p ∈ NX14 := fun p hp => k14 p (k1013 p hp)
  have i1 := i1.mono fun p hp => k14 p (k13 p (k12 p hp))
  have i2 := i2.mono fun p hp => k14 p (k13 p hp)
  have i3 := i3.mono k14
  have g2 := g2.mono kz
  have g3 := g3.mono kz
  have g4 := g4.mono kz
  have g5 := g5.mono kz
  have iL := iL.mono kz
  have iH := iH.mono kz
  have jT := jT.mono kz
  have jM := jM.mono kz
  have jF := jF.mono kz
  have jR := jR.mono kz
  have jE := jE.mono kz
  -- the comparisons
  refine law_s14 B X T hd hu F14 N14 (ls := lowL sc) g4 iL (lowL_length sc) (tu := tu) (sh := sh) (be := be) (fi := fi) (by ((repeat (first | rw [if_neg (by decide)] | dsimp only)); first | exact if_pos rfl | rfl | assumption)) (by ((repeat (first | rw [if_neg (by decide)] | dsimp only)); first | exact if_pos rfl | rfl | assumption)) (by ((repeat (first | rw [if_neg (by decide)] | dsimp only)); first | exact if_pos rfl | rfl | assumption)) (by ((repeat (first | rw [if_neg (by decide)] | dsimp only)); first | exact if_pos rfl | rfl | assumption)) i1 i2 i3 i4 ?_
  intro h15 tk15 m15 F15 N15 hm15
  refine law_s15 B X T hd hu F15 N15 g4 g5 iL (lowL_length sc) iH (highL_length sc) (tu := tu) (sh := sh) (be := be) (fi := fi) (fo := fo) (mk := mk) (by rw [hm15]; ((repeat (first | rw [if_neg (by decide)] | dsimp only)); first | exact if_pos rfl | rfl | assumption)) (by rw [hm15]; ((repeat (first | rw [if_neg (by decide)] | dsimp only)); first | exact if_pos rfl | rfl | assumption)) (by rw [hm15]; ((repeat (first | rw [if_neg (by decide)] | dsimp only)); first | exact if_pos rfl | rfl | assumption)) (by rw [hm15]; ((repeat (first | rw [if_neg (by decide)] | dsimp only)); first | exact if_pos rfl | rfl | assumption)) (by rw [hm15]; ((repeat (first | rw [if_neg (by decide)] | dsimp only)); first | exact if_pos rfl | rfl | assumption)) (by rw [hm15]; ((repeat (first | rw [if_neg (by decide)] | dsimp only)); first | exact if_pos rfl | rfl | assumption))
    i1 (lowL_length sc) i2 (by simp) i3 (by simp) i4 (by simp) jF (fsL_length sc) jM (msL_length sc) ?_
  intro h16 tk16 m16 F16 N16 hm16
  have t16 : m16 (Str.ofString "told") = some (.ref to) := by rw [hm16, hm15]; ((repeat (first | rw [if_neg (by decide)] | dsimp only)); first | exact if_pos rfl | rfl | assumption)
  have u16 : m16 (Str.ofString "masks") = some (.ref mk) := by rw [hm16, hm15]; ((repeat (first | rw [if_neg (by decide)] | dsimp only)); first | exact if_pos rfl | rfl | assumption)
  refine law_s16 B X T hd hu F16 N16 g2 jR.t (nsL_length sc) t16 jT (toldL_length sc) g4 g5 iL (lowL_length sc) iH (highL_length sc) (s16_0 sc) (s16_1 sc) (s16_2 sc) (s16_3 sc) (s16_4 sc) (s16_5 sc) ?_
  intro h17 tk17 m17 F17 N17 hm17
  refine law_s17 B X T hd hu F17 N17 XB TB g2 jR (nsL_length sc) g3 jE (esL_length sc) (Nat.le_refl 1) (by omega) (by omega) (to := to) (by rw [hm17 _ (by decide)]; exact t16) jT (by rw [hm17 _ (by decide)]; exact u16) jM (msL_length sc) g4 g5 iL (lowL_length sc) iH (highL_length sc)
    (s17_0 sc) (s17_b1 sc) (s17_b2 sc) (s17_1 sc) (s17_2 sc) ?_
  intro h18 tk18 m18 F18 N18
  exact law_s18 B X T hd hu F18 N18 fun h' tk' F' => k h' tk' m18 F'
end Mine
end

section
open PySem PySem.W PyProof.Rows PySem.Calls
namespace Mine
set_option maxRecDepth 100000 in
set_option maxHeartbeats 4000000 in
theorem c_law {w : World} {script : Addr} {sc : List Int}
  (loose : List Str) (mean : ExcName → Option Value) (mg mb : Str → Option Value) (s : Shared) (E Q : Value → Shared → Prop) (dp un : Nat) (gd : Option (List Code)) (base : Heap)
  (B : Below (arnd dp un gd []) base [] s.heap) (XB : (hd.heap_39 w.params).In base) (TB : Top hd.view_39 loose mean mg mb base) (hd : dp + 50 < recursionLimit) (hu : un + 400 < cLine)
  (hs : IntL s.heap script sc) (hlen : sc.length ≤ 63) (pre : 1 ≤ s.toks)
  (ret : ∀ h' tk', Ext s.heap h' → Q (.bool true) { s with heap := h', toks := tk' }) :
  wpAny (model PySem.Challenge.rw_rw0006_01.row.prog w) (arnd dp un gd []) (call (.ref 97) [.ref script]) Q E s := by
  k_with_none
  w_top off
  have X := XB.keeps B.stays
  have T := TB.keeps B.stays
  revert X
  k_fill
  intro X
  obtain ⟨g, gens, drawn, toks, os⟩ := s
  dsimp only at B X T pre ret hs
  k_dflt (refine' enterRC (args := ⟨_, []⟩) (binds := [(Str.ofString "script", .ref script)]) ?k1 ?k2 ?k3 ?k6 ?k7 ?k8 ?k9 ?kB ?kD ?c2 ?c3 ?c4 ?_; (case k1 => k_asm); (case k2 => k_asm); (case k3 => k_asm); (case k6 => k_is); (case k7 => k_is); (case k8 => omega); (case k9 => exact BindsTo.of_eq rfl); (case kB => exact rfl); (case kD => decide +kernel); (case c2 => exact rfl); (case c3 => exact rfl); (case c4 => exact rfl); k_whole)
  intro h₁ tk₁ cells htk₁ F N Y
  have KX := X
  dsimp only at *
  k_cells Y
  (try simp only [List.cons_append, List.nil_append] at N)
  k_unmd
  k_fold
  show wpAny _ (arnd _ _ _ [lawEnv g.objs.size]) (execs lawBody (lawEnv g.objs.size)) _ _ _
  refine law_body B XB TB hd hu F N ⟨_, .tail _ (.tail _ (.tail _ (.tail _ (.head _)))), ?_⟩ ⟨_, .tail _ (.tail _ (.tail _ (.head _))), ?_⟩ ⟨_, .tail _ (.tail _ (.head _)), ?_⟩ ⟨_, .tail _ (.head _), ?_⟩ ⟨_, .head _, ?_⟩ hs hlen ?_ ?_
  · assumption
  · assumption
  · assumption
  · assumption
  · assumption
  · exact Nat.le_trans pre htk₁
  · intro h' tk' m' F'
    exact ret _ _ fun b o e => F'.keep b o e
end Mine
end

section
open PySem PySem.W PySem.W.X PySem.W.ZRun PyProof.Rows
namespace Mine
theorem frag_sub {K K' : Frag} {h : Heap} (e : K'.map (fun q => K.lookup q.1) = K'.map (fun q => some q.2)) (X : K.In h) : K'.In h := by
  intro a o x
  have hm : (a, o) ∈ K' := by
    clear e X
    induction K' with
    | nil => cases x
    | cons q r ih =>
      rw [List.lookup_cons] at x
      split at x
      · rename_i z
        cases x
        have : a = q.1 := by simpa using z
        rw [this]; exact .head _
      · exact .tail _ (ih x)
  obtain ⟨i, hi⟩ := List.getElem?_of_mem hm
  have := congrArg (fun l => l[i]?) e
  simp only [List.getElem?_map, hi, Option.map_some, Option.some.injEq] at this
  exact X _ _ this
end Mine
end

open PySem PySem.W PySem.W.X PySem.W.ZRun PyProof.Rows
set_option maxRecDepth 100000 in
set_option maxHeartbeats 0 in
theorem PySem.Challenge.cw_rw0006_01_holds : PySem.Challenge.rw_rw0006_01.Holds := by
  k_with_none
  w_top off
  w_on; o_law; z_head; (case hw => w_witness2)
  k_fill
  intro w s₀ s₁ mg mb G y fa o pm cd doc dV kV ho hd hcd hD hmg hg args vals as L hpre hlay hrd hwl hlo
  z_open y L KX ZH ZN ZT
  refine Ground.open G ?_
  intro T B D TE TW
  have h97 : mg (Str.ofString "law") = some (.ref 97) := mg_of KX T.g (by first | kernel_rfl | k_dflt k_is)
  have hfa : fa = 97 := by
    have e : mg (Str.ofString "law") = some (.ref fa) := hmg
    rw [h97] at e
    cases e
    rfl
  subst hfa
  have K0 := below_caller (Top.heap T)
  wrow_args hpre hlay hrd hwl hlo
  have htk := script_toks L ZT
  rename IntsAre _ _ => hI
  rename Heap.IsList _ _ _ => hL
  rename ¬ _ < _ => hlen
  have XB := Mine.frag_sub (K' := Mine.hd.heap_39 w.params) (by kernel_rfl) KX
  refine Mine.c_law _ _ mg mb s₁ _ _ (1 + claimMargin) 4 (some []) s₁.heap K0 XB T (by decide +kernel) (by decide +kernel) ⟨_, hL, hI⟩ (by omega) (Nat.le_trans (by decide) htk) ?_
  intro h' tk' K
  refine GoodW.toG ⟨.inl ⟨_, _, _, rfl, raisesW_false ?_, .bool true, ?_, unshared_nil⟩, K, rfl, hg⟩
  · wrow_none_raised
  · wrow_post
