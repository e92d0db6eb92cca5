import PyProof.Rows.All
import Wide.All
import OpenK.AllK
import Wide.FinOn
import Lean
import PySem.Challenge.RW_eh5001_01
open PySem PySem.W PyProof.Rows PySem.Calls PySem.Spec
set_option Elab.async false
set_option linter.unusedVariables false
set_option maxRecDepth 100000
namespace Mine
-- the head
set_option maxRecDepth 100000 in
set_option maxHeartbeats 8000000 in
open_top hd for PySem.Challenge.rw_eh5001_01
--MACRO
example : PySem.Challenge.rw_eh5001_01 = PySem.Challenge.rw_eh5001_01 ∧ hd.heap_39 = hd.heap_39 := by
  w_top off
  k_fill
  exact ⟨rfl, rfl⟩
--END

noncomputable abbrev Lse : List Str := looseW hd.view_39 [Str.ofString "int_from_bytes", Str.ofString "_parse"]

/-- what is kept but for some places -/
def Kp (ads : List Addr) (h h' : Heap) : Prop := ∀ b o, b ∉ ads → h.get? b = some o → h'.get? b = some o
abbrev ads (l : List (Addr × Obj)) : List Addr := l.map (·.1)
abbrev ktA (dp un : Nat) (gd : Option (List Code)) (envs : List Env) : Around := { handled := none, depth := dp, frames := some envs, guards := gd, units := un }

structure At (w : World) (mean : ExcName → Option Value) (mg mb : Str → Option Value) (A : Around) (base h : Heap) (envs : List Env) : Prop where
  B : Below A base envs h
  X : (hd.heap_39 w.params).In base
  T : Top hd.view_39 Lse mean mg mb base

def OwnAt (base h : Heap) (envs : List Env) (own : List (Addr × Obj)) : Prop :=
  ∀ p ∈ own, h.get? p.1 = some p.2 ∧ base.get? p.1 = none ∧ p.1 ∉ envs.filterMap (·.frame)

/-- the ledger behind a call -/
def LedAt (h h' : Heap) (own own' : List (Addr × Obj)) : Prop :=
  ∀ p ∈ own', h'.get? p.1 = some p.2 ∧ (p.1 ∈ ads own ∨ h.get? p.1 = none)

/-- the contract of a def -/
def HCk (prog : Program) (w : World) (mean : ExcName → Option Value) (mg mb : Str → Option Value) (n : Nat) (f : Addr) (args : List Value) (kw : List (Str × Value)) (own : List (Addr × Obj)) (Post : Value → List (Addr × Obj) → Prop) (Rz : Prop) : Prop :=
  ∀ (dp un : Nat) (gd : Option (List Code)) (base : Heap) (envs : List Env) (s : Shared) (Q E : Value → Shared → Prop),
    At w mean mg mb (ktA dp un gd envs) base s.heap envs → OwnAt base s.heap envs own → dp + n < recursionLimit → un + 8 * n + 200 < cLine →
    (∀ r own' h' tk', Kp (ads own) s.heap h' → LedAt s.heap h' own own' → Post r own' → Q r { s with heap := h', toks := tk' }) →
    (∀ e t vs h' tk', Rz → RaisedK base envs e (.type "ValueError") t vs [] h' → s.heap.UpToSlots h' → E (.ref e) { s with heap := h', toks := tk' }) →
    wpAny (model prog w) (ktA dp un gd envs) (call (.ref f) args kw) Q E s
abbrev HC (prog : Program) (w : World) (mean : ExcName → Option Value) (mg mb : Str → Option Value) (n : Nat) (f : Addr) (args : List Value) (own : List (Addr × Obj)) (Post : Value → List (Addr × Obj) → Prop) (Rz : Prop) : Prop := HCk prog w mean mg mb n f args [] own Post Rz

/-- the end of a body: a mark that no line of the walk knows -/
def Fin (P : Prop) : Prop := P

section
variable {prog : Program} {w : World} {mean : ExcName → Option Value} {mg mb : Str → Option Value}

theorem own_of_news {g h base : Heap} {L : Addr} {A : Around} {envs : List Env} {env : Env} {news : List (Addr × Obj)} (B : Below A base envs g) (N : News g L h news) (hf : env.frame = some L) :
    OwnAt base h (env :: envs) news := by
  intro p hp
  obtain ⟨h1, h2, h3⟩ := N p hp
  refine ⟨h1, fresh_of_stays B.stays h3, fun hm => ?_⟩
  rw [List.filterMap_cons, hf] at hm
  rcases List.mem_cons.mp hm with e | hm
  · exact h2 e
  · obtain ⟨_, o, ho, _⟩ := B.frames.mem hm
    rw [h3] at ho; cases ho

theorem hc_enter {dp un : Nat} {gd : Option (List Code)} {base : Heap} {envs : List Env} {s : Shared} {Q E : Value → Shared → Prop} {own : List (Addr × Obj)}
    {name qual : Str} {params : Arguments} {body : List Stmt} {scope : Scope} {dV kV doc pm cdv ct oc : Value} {an od : Option Addr} {osl : Array (Option Value)} {f : Addr} {args : List Value} {kw : List (Str × Value)} {binds : List (Str × Value)}
    (C : At w mean mg mb (ktA dp un gd envs) base s.heap envs) (O : OwnAt base s.heap envs own) (hroom : dp < recursionLimit)
    (ho : (hd.heap_39 w.params).lookup f = some ⟨oc, od, .func (fnOf name qual params body scope dV kV doc pm an cdv ct), osl⟩) (hcd : codeIn (hd.heap_39 w.params) cdv qual = true)
    (hbind : ∀ s : Shared, (hd.heap_39 w.params).In s.heap → BindsTo s (fnOf name qual params body scope dV kV doc pm an cdv ct) ⟨args, kw⟩ binds) (hloc : ∀ y ∈ binds, scope.names.lookup y.1 = some .local)
    (hco : scope.isCoroutine = false) (hgen : scope.isGenerator = false) (hk : scope.kind = .function) (hcell : ∀ x ∈ scope.names, x.2 ≠ .cell)
    (h : ∀ g L h₁, Fr g L h₁ (fun y => binds.reverse.lookup y) → News g L h₁ own → Below (ktA dp un gd envs) base envs g → (hd.heap_39 w.params).In g → Top hd.view_39 Lse mean mg mb g → Kp (ads own) s.heap g → g.StaysIn s.heap →
      wpAny (model prog w) ((ktA dp un gd envs).deeper (envOf qual scope L f cdv)) (execs body (envOf qual scope L f cdv))
        (fun fl s' => Fin (Q (match fl with | .ret v => v | _ => .none) s'))
        (fun e s' => wpAny (model prog w) ((ktA dp un gd envs).deeper (envOf qual scope L f cdv)) (leaving (envOf qual scope L f cdv) e) (fun _ s'' => E e s'') (fun e' s'' => E e' s'') s')
        { s with heap := h₁, toks := s.toks + binds.length }) :
    wpAny (model prog w) (ktA dp un gd envs) (call (.ref f) args kw) Q E s := by
  have hX : (hd.heap_39 w.params).In s.heap := C.X.keeps C.B.stays
  refine wpAny_call ?_
  refine codeAny_call_def (fd := fnOf name qual params body scope dV kV doc pm an cdv ct) (body := body) (binds := binds) hroom (hX _ _ ho) rfl (C.T.nolimit.keeps C.B.stays) (codeRec_of hX hcd) rfl (hbind s hX) hcell hloc (fun h₁ hns hk₁ => ?_) hco hgen hk
  have nb : ∀ b o, base.get? b = some o → b ∉ ads own := fun b o e q => by
    obtain ⟨p, hp, rfl⟩ := List.mem_map.mp q
    rw [(O p hp).2.1] at e; cases e
  have st : base.StaysIn (hideAll s.heap (ads own)) := fun b o e => hideAll_get _ (C.B.stays b o e) (nb b o e)
  have B₂ : Below (ktA dp un gd envs) base envs (hideAll s.heap (ads own)) := ⟨C.B.stack, st, funFrames_hideAll C.B.frames fun env he b hb hf => by
    obtain ⟨p, hp, rfl⟩ := List.mem_map.mp hb
    exact (O p hp).2.2 (List.mem_filterMap.mpr ⟨env, he, hf⟩)⟩
  have z := h (hideAll s.heap (ads own)) s.heap.objs.size h₁ ⟨hns, fun b o e => hk₁ b o (of_hideAll _ e), Nat.le_of_eq (hideAll_size _ _)⟩
    (fun p hp => ⟨hk₁ _ _ (O p hp).1, Nat.ne_of_lt (Heap.lt_size (O p hp).1), hideAll_none _ (List.mem_map_of_mem hp)⟩) B₂ (C.X.keeps st) (C.T.keeps st)
    (fun b o hb e => hideAll_get _ e hb) (fun b o e => of_hideAll _ e)
  exact z

/-- the end of a body, when nothing was raised -/
theorem hc_fin {g h h' : Heap} {L : Addr} {m : Str → Option Value} {own own' : List (Addr × Obj)} (F : Fr g L h' m) (N : News g L h' own') (KG : Kp (ads own) h g) :
    Kp (ads own) h h' ∧ LedAt h h' own own' := by
  refine ⟨fun b o hb e => F.keep b o (KG b o hb e), fun p hp => ⟨(N p hp).1, ?_⟩⟩
  by_cases q : p.1 ∈ ads own
  · exact .inl q
  · refine .inr ?_
    cases e : h.get? p.1 with
    | none => rfl
    | some o => have := KG _ _ q e; rw [(N p hp).2.2] at this; cases this

theorem fin_ret {g h' : Heap} {s : Shared} {L : Addr} {m : Str → Option Value} {own own' : List (Addr × Obj)} {Post : Value → List (Addr × Obj) → Prop} {Q : Value → Shared → Prop} {r : Value} {tk' : Nat}
    (ret : ∀ r own' h' tk', Kp (ads own) s.heap h' → LedAt s.heap h' own own' → Post r own' → Q r { s with heap := h', toks := tk' }) (KG : Kp (ads own) s.heap g)
    (F : Fr g L h' m) (N : News g L h' own') (p : Post r own') : Fin (Q r { s with heap := h', toks := tk' }) := ret _ _ _ _ (hc_fin F N KG).1 (hc_fin F N KG).2 p

/-- a call by contract, seen from a body -/
theorem hc_use {n : Nat} {f : Addr} {args : List Value} {kw : List (Str × Value)} {own rest : List (Addr × Obj)} {Post : Value → List (Addr × Obj) → Prop} {Rz : Prop}
    (c : HCk prog w mean mg mb n f args kw own Post Rz)
    {dp un : Nat} {gd : Option (List Code)} {base g : Heap} {envs : List Env} {s : Shared} {Q E : Value → Shared → Prop} {L : Addr} {m : Str → Option Value} {cn : Str} {cs : Scope} {a : Addr} {ccd : Value}
    (C : At w mean mg mb (ktA dp un gd envs) base g envs) (F : Fr g L s.heap m) (N : News g L s.heap (own ++ rest)) (hk : cs.kind = .function)
    (hs : ∀ p ∈ rest, p.1 ∉ ads own)
    (hd' : dp + 1 + n < recursionLimit) (hu : un + 3 + 8 * n + 200 < cLine)
    (ret : ∀ r own' h' tk', Fr g L h' m → News g L h' (own' ++ rest) → (∀ p ∈ own', p.1 ∈ ads own ∨ ∀ q ∈ own ++ rest, q.1 ≠ p.1) → Post r own' → Q r { s with heap := h', toks := tk' })
    (rz : ∀ e t vs h' tk', Rz → RaisedK (hideAll s.heap (ads own ++ (envOf cn cs L a ccd :: envs).filterMap (·.frame))) (envOf cn cs L a ccd :: envs) e (.type "ValueError") t vs [] h' → s.heap.UpToSlots h' → E (.ref e) { s with heap := h', toks := tk' }) :
    wpAny (model prog w) ((ktA dp un gd envs).deeper (envOf cn cs L a ccd)) (call (.ref f) args kw) Q E s := by
  have B := C.B.push (name := cn) (scope := cs) (a := a) (cd := ccd) F hk
  have No : News g L s.heap own := fun p hp => N p (List.mem_append_left _ hp)
  have O := own_of_news (env := envOf cn cs L a ccd) C.B No rfl
  have st : base.StaysIn (hideAll s.heap (ads own ++ (envOf cn cs L a ccd :: envs).filterMap (·.frame))) := fun b o e => hideAll_get _ (B.stays b o e) fun q => by
    rcases List.mem_append.mp q with q | q
    · obtain ⟨p, hp, rfl⟩ := List.mem_map.mp q
      rw [(O p hp).2.1] at e; cases e
    · rw [(B.frames.mem q).1] at e; cases e
  have hC : At w mean mg mb (ktA (dp + 1) (un + 3) gd (envOf cn cs L a ccd :: envs)) (hideAll s.heap (ads own ++ (envOf cn cs L a ccd :: envs).filterMap (·.frame))) s.heap (envOf cn cs L a ccd :: envs) :=
    ⟨⟨rfl, fun b o e => of_hideAll _ e, funFrames_hide B.frames fun env he b hb => List.mem_append_right _ (List.mem_filterMap.mpr ⟨env, he, hb⟩)⟩, C.X.keeps st, C.T.keeps st⟩
  refine c (dp + 1) (un + 3) gd _ (envOf cn cs L a ccd :: envs) s Q E hC (fun p hp => ⟨(O p hp).1, hideAll_none _ (List.mem_append_left _ (List.mem_map_of_mem hp)), (O p hp).2.2⟩) hd' hu
    (fun r own' h' tk' hK hL hP => ?_) rz
  have nL : L ∉ ads own := fun q => by
    obtain ⟨p, hp, e⟩ := List.mem_map.mp q
    exact (No p hp).2.1 e
  have ng : ∀ b o, g.get? b = some o → b ∉ ads own := fun b o e q => by
    obtain ⟨p, hp, rfl⟩ := List.mem_map.mp q
    rw [(No p hp).2.2] at e; cases e
  obtain ⟨oL, es, ep, hoL, hLr⟩ := F.ns
  refine ret r own' h' tk' ⟨⟨oL, es, ep, hK L oL nL hoL, hLr⟩, fun b o e => hK b o (ng b o e) (F.keep b o e), F.above⟩ (fun p hp => ?_) (fun p hp => ?_) hP
  · rcases List.mem_append.mp hp with hp | hp
    · obtain ⟨h1, h2⟩ := hL p hp
      refine ⟨h1, ?_, ?_⟩
      · rintro rfl
        rcases h2 with h2 | h2
        · exact nL h2
        · rw [hoL] at h2; cases h2
      · rcases h2 with h2 | h2
        · obtain ⟨q, hq, e⟩ := List.mem_map.mp h2
          rw [← e]
          exact (No q hq).2.2
        · cases e : g.get? p.1 with
          | none => rfl
          | some o => rw [F.keep _ _ e] at h2; cases h2
    · obtain ⟨h1, h2, h3⟩ := N p (List.mem_append_right _ hp)
      exact ⟨hK _ _ (hs p hp) h1, h2, h3⟩
  · rcases (hL p hp).2 with h2 | h2
    · exact .inl h2
    · refine .inr fun q hq e => ?_
      have := (N q hq).1
      rw [e, h2] at this; cases this
end

abbrev lsO (its : List Value) (n : Nat) : Obj := listOf its.toArray n
abbrev stO (ls : Addr) (cur seed : Int) (fl : Bool) (t1 t2 : Tok) (n : Nat) : Obj := listOf #[.ref ls, .int cur t1, .int seed t2, .bool fl] n
def StOk (vs : List Value) (cur seed : Int) : Prop := ∃ ns, IntsAre vs ns ∧ (∀ x ∈ ns, 0 ≤ x ∧ x < 1000000007) ∧ ns.length ≤ 40 ∧ 0 ≤ cur ∧ cur < 2147483647 ∧ 0 ≤ seed ∧ seed < 2147483647

section
variable {prog : Program} {w : World} {mean : ExcName → Option Value} {mg mb : Str → Option Value}

section
variable {A : Around} {E : Value → Shared → Prop} {s : Shared} {h₀ : Heap} {L D : Addr} {m : Str → Option Value} {news news' : List (Addr × Obj)} {n : Nat} {v : Value} {r : List Value} {u : Tok}
theorem pop0_K {Q : Value → Shared → Prop} (F : Fr h₀ L s.heap m) (N : News h₀ L s.heap news) (U : Upd D (listOf (v :: r).toArray n) (listOf r.toArray (n + 1)) news news') (hz : r.length ≤ 1000)
    (h : ∀ h', Fr h₀ L h' m → News h₀ L h' news' → Q v { s with heap := h' }) : wpAny (model prog w) A (call (.builtin "list.pop") [.ref D, .int 0 u]) Q E s := by
  refine kl_popAt (k := 0) (p := []) (q := r) F N (by decide) ?_ rfl U ?_ h
  · show seqIndex? 0 (v :: r).toArray.size = some 0
    rw [List.size_toArray, List.length_cons]
    unfold seqIndex?
    simp
  · show (v :: r).length ≤ sizeLine
    rw [sizeLine_eq, List.length_cons]; omega
theorem mfmod_lo {x k : Int} (h : 1 ≤ k) : 0 ≤ x.fmod k := by
  rw [Int.fmod_eq_emod_of_nonneg _ (by omega)]; exact Int.emod_nonneg _ (by omega)
theorem mfmod_lt {x k : Int} (h : 1 ≤ k) : x.fmod k < k := by
  rw [Int.fmod_eq_emod_of_nonneg _ (by omega)]; exact Int.emod_lt_of_pos _ (by omega)
theorem mfdiv_lo {x k : Int} (h : 1 ≤ k) (hx : 0 ≤ x) : 0 ≤ x.fdiv k := by
  rw [Int.fdiv_eq_ediv_of_nonneg _ (by omega)]; exact Int.ediv_nonneg hx (by omega)
theorem mfdiv_le {x k : Int} (h : 1 ≤ k) (hx : 0 ≤ x) : x.fdiv k ≤ x := by
  rw [Int.fdiv_eq_ediv_of_nonneg _ (by omega)]
  exact Int.ediv_le_self _ hx
theorem truthy_consK {Q : Bool → Shared → Prop} (N : News h₀ L s.heap news) (hm : (D, listOf (v :: r).toArray n) ∈ news) (hz : r.length ≤ 1000)
    (h : ∀ tk, Q true { s with toks := tk }) : wpAny (model prog w) A (truthy (.ref D)) Q E s := by
  refine wpAny_truthy_list (PySem.IsL.isList (n := n) (N _ hm).1) (by rw [List.size_toArray, List.length_cons]; omega) ?_
  exact h _
end

end
--MACRO
local macro_rules | `(tactic| walk_at "truthy ref") => `(tactic| (k_here; (with_reducible show wpAny _ _ (truthy (Value.ref _)) _ _ _); k_dflt (refine' truthy_consK ?N ?m ?z ?_; (case N => k_asm); (case m => k_mem); (case z => first | omega | assumption)); intro tk'; (try dsimp only)))
local macro_rules | `(tactic| walk_at "call builtin:list.pop") => `(tactic| (k_here; (with_reducible show wpAny _ _ (call (Value.builtin _) [Value.ref _, Value.int 0 _]) _ _ _); k_dflt (refine' pop0_K ?F ?N ?U ?z ?_; (case F => k_asm); (case N => k_asm); (case U => k_upd); (case z => first | omega | assumption)); intro h' F' N'; (try dsimp only)))
local macro_rules | `(tactic| walk_at "binaryOp FloorDiv int int") => `(tactic| ((with_reducible refine floordiv_int ?kbe ?_ (Or.inl (PyProof.noPylong_small ?kbp))); (case kbe => omega); (case kbp => omega)))

--END

section
variable {prog : Program} {w : World} {mean : ExcName → Option Value} {mg mb : Str → Option Value}
set_option maxHeartbeats 8000000 in
theorem take_spec {st ls : Addr} {n1 n2 : Nat} {vs : List Value} {cur seed : Int} {t1 t2 tk : Tok} {fl : Bool} {k : Int}
   (hsl : @Ne Nat st ls) (hS : StOk vs cur seed) (hk1 : 1 ≤ k) (hk2 : k < 1073741824) :
   HC prog w mean mg mb 1 43 [.ref st, .int k tk] [(st, stO ls cur seed fl t1 t2 n1), (ls, lsO vs n2)]
    (fun r own' => ∃ i t cur' seed' t1' t2' n1' vs' n2', r = .int i t ∧ 0 ≤ i ∧ i < k ∧ StOk vs' cur' seed' ∧ own' = [(st, stO ls cur' seed' fl t1' t2' n1'), (ls, lsO vs' n2')]) False := by
  intro dp un gd base envs s Q E C O hd hu ret rz
  obtain ⟨ns, hi, hb, hl, hc0, hc1, hs0, hs1⟩ := hS
  have hvl : vs.length ≤ 40 := by rw [hi.length]; exact hl
  refine hc_enter C O (by omega) (by k_dflt k_is) (by k_dflt k_is) (fun _ _ => BindsTo.of_eq rfl) (locs rfl) rfl rfl rfl (by decide) ?_
  intro g L h₁ F N B X T KG GS
  dsimp only
  have hkn : k ≠ 0 := by omega
  cases hi with
  | nil => 
    k_steps
    all_goals (dsimp only; refine fin_ret ret KG (by k_asm) (by k_asm) ⟨_, _, _, _, _, _, _, _, _, rfl, mfmod_lo hk1, mfmod_lt hk1, ?_, rfl⟩)
    · have a1 := mfmod_lo (x := seed * 48271 + 11) (k := 2147483647) (by decide)
      have a2 := mfmod_lt (x := seed * 48271 + 11) (k := 2147483647) (by decide)
      exact ⟨[], .nil, hb, hl, mfdiv_lo hk1 a1, Int.lt_of_le_of_lt (mfdiv_le hk1 a1) a2, a1, a2⟩
    · exact ⟨[], .nil, hb, hl, mfdiv_lo hk1 hc0, Int.lt_of_le_of_lt (mfdiv_le hk1 hc0) hc1, hs0, hs1⟩
  | @cons i t vs' ns' hi' =>
    have hvl' : vs'.length ≤ 1000 := by simp at hvl; omega
    k_steps
    all_goals (dsimp only; refine fin_ret ret KG (by k_asm) (by k_asm) ⟨_, _, _, _, _, _, _, _, _, rfl, mfmod_lo hk1, mfmod_lt hk1, ?_, rfl⟩)
    · have a1 := (hb i (.head _)).1
      have a2 := (hb i (.head _)).2
      exact ⟨ns', hi', fun x hx => hb x (.tail _ hx), by simp at hl; omega, mfdiv_lo hk1 a1, Int.lt_of_le_of_lt (mfdiv_le hk1 a1) (by omega), hs0, hs1⟩
    · exact ⟨i :: ns', .cons i t hi', hb, hl, mfdiv_lo hk1 hc0, Int.lt_of_le_of_lt (mfdiv_le hk1 hc0) hc1, hs0, hs1⟩

/-- the law's state, as two objects of the ledger -/
def StB (ls : Addr) (fl : Bool) (o1 o2 : Obj) : Prop := ∃ cur seed t1 t2 n1 vs n2, o1 = stO ls cur seed fl t1 t2 n1 ∧ o2 = lsO vs n2 ∧ StOk vs cur seed

theorem take_B {st ls : Addr} {o1 o2 : Obj} {tk : Tok} {fl : Bool} {k : Int} (hsl : @Ne Nat st ls) (hS : StB ls fl o1 o2) (hk1 : 1 ≤ k) (hk2 : k < 1073741824) :
   HC prog w mean mg mb 1 43 [.ref st, .int k tk] [(st, o1), (ls, o2)] (fun r own' => ∃ i t o1' o2', r = .int i t ∧ 0 ≤ i ∧ i < k ∧ StB ls fl o1' o2' ∧ own' = [(st, o1'), (ls, o2')]) False := by
  obtain ⟨cur, seed, t1, t2, n1, vs, n2, rfl, rfl, hS⟩ := hS
  intro dp un gd base envs s Q E C O hd hu ret rz
  refine take_spec hsl hS hk1 hk2 dp un gd base envs s Q E C O hd hu (fun r own' h' tk' hK hL hP => ?_) rz
  obtain ⟨i, t, cur', seed', t1', t2', n1', vs', n2', h1, h2, h3, h4, h5⟩ := hP
  exact ret r own' h' tk' hK hL ⟨i, t, _, _, h1, h2, h3, ⟨_, _, _, _, _, _, _, rfl, rfl, h4⟩, h5⟩
end

section
variable {prog : Program} {w : World} {mean : ExcName → Option Value} {mg mb : Str → Option Value}
def NeAll (a : Nat) : List (Addr × Obj) → Prop
  | [] => True
  | p :: r => @Ne Nat p.1 a ∧ NeAll a r
theorem neAll_of {a : Nat} : ∀ {l : List (Addr × Obj)}, (∀ q ∈ l, q.1 ≠ a) → NeAll a l
  | [], _ => trivial
  | _ :: _, h => ⟨h _ (.head _), neAll_of fun q hq => h q (.tail _ hq)⟩
theorem NeAll.ne {a : Nat} : ∀ {l : List (Addr × Obj)}, NeAll a l → ∀ q ∈ l, q.1 ≠ a
  | [], _, _, hq => nomatch hq
  | p :: l, h, q, hq => by
    rcases List.mem_cons.mp hq with e | hq
    · rw [e]; exact h.1
    · exact NeAll.ne h.2 q hq

/-- one entry taken out of a ledger -/
inductive Pick (a : Addr) (o : Obj) : List (Addr × Obj) → List (Addr × Obj) → Prop
  | head {r} : (∀ p ∈ r, p.1 ≠ a) → Pick a o ((a, o) :: r) r
  | tail {p r r'} : p.1 ≠ a → Pick a o r r' → Pick a o (p :: r) (p :: r')
theorem Pick.mem {a : Addr} {o : Obj} : ∀ {l r : List (Addr × Obj)}, Pick a o l r → (a, o) ∈ l ∧ (∀ p ∈ r, p ∈ l) ∧ ∀ p ∈ r, p.1 ≠ a
  | _, _, .head h => ⟨.head _, fun _ hp => .tail _ hp, h⟩
  | _, _, .tail h q => by
    obtain ⟨a1, a2, a3⟩ := q.mem
    refine ⟨.tail _ a1, fun p hp => ?_, fun p hp => ?_⟩
    · rcases List.mem_cons.mp hp with rfl | hp
      · exact .head _
      · exact .tail _ (a2 p hp)
    · rcases List.mem_cons.mp hp with rfl | hp
      · exact h
      · exact a3 p hp
/-- no object of the ledger is asked for -/
theorem hc_use0 {n : Nat} {f : Addr} {args : List Value} {kw : List (Str × Value)} {Post : Value → List (Addr × Obj) → Prop} {Rz : Prop} (c : HCk prog w mean mg mb n f args kw [] Post Rz)
    {dp un : Nat} {gd : Option (List Code)} {base g : Heap} {envs : List Env} {s : Shared} {Q E : Value → Shared → Prop} {L : Addr} {m : Str → Option Value} {cn : Str} {cs : Scope} {a : Addr} {ccd : Value} {news : List (Addr × Obj)}
    (C : At w mean mg mb (ktA dp un gd envs) base g envs) (F : Fr g L s.heap m) (N : News g L s.heap news) (hk : cs.kind = .function)
    (hd' : dp + 1 + n < recursionLimit) (hu : un + 3 + 8 * n + 200 < cLine)
    (ret : ∀ r own' h' tk', Fr g L h' m → News g L h' (own' ++ news) → (∀ p ∈ own', ∀ q ∈ news, q.1 ≠ p.1) → Post r own' → Q r { s with heap := h', toks := tk' })
    (rz : ∀ e t vs h' tk', Rz → RaisedK (hideAll s.heap ((envOf cn cs L a ccd :: envs).filterMap (·.frame))) (envOf cn cs L a ccd :: envs) e (.type "ValueError") t vs [] h' → s.heap.UpToSlots h' → E (.ref e) { s with heap := h', toks := tk' }) :
    wpAny (model prog w) ((ktA dp un gd envs).deeper (envOf cn cs L a ccd)) (call (.ref f) args kw) Q E s := by
  have z := @hc_use prog w mean mg mb n f args kw [] news Post Rz c dp un gd base g envs s Q E L m cn cs a ccd C F N hk (fun _ _ h => nomatch h) hd' hu
  refine z ?_ ?_
  · intro r own' h' tk' F' N' h P
    exact ret r own' h' tk' F' N' (fun p hp q hq => (h p hp).elim (fun x => nomatch x) fun y => y q hq) P
  · intro e t vs h' tk' hz R U
    exact rz e t vs h' tk' hz R U
/-- the law's state is handed over -/
theorem hc_use2 {n : Nat} {f : Addr} {args : List Value} {st ls : Addr} {o1 o2 : Obj} {Post : Value → List (Addr × Obj) → Prop} (c : HC prog w mean mg mb n f args [(st, o1), (ls, o2)] Post False)
    {dp un : Nat} {gd : Option (List Code)} {base g : Heap} {envs : List Env} {s : Shared} {Q E : Value → Shared → Prop} {L : Addr} {m : Str → Option Value} {cn : Str} {cs : Scope} {a : Addr} {ccd : Value} {news r1 rest : List (Addr × Obj)}
    (C : At w mean mg mb (ktA dp un gd envs) base g envs) (F : Fr g L s.heap m) (N : News g L s.heap news) (hk : cs.kind = .function)
    (p1 : Pick st o1 news r1) (p2 : Pick ls o2 r1 rest)
    (hd' : dp + 1 + n < recursionLimit) (hu : un + 3 + 8 * n + 200 < cLine)
    (ret : ∀ r own' h' tk', Fr g L h' m → News g L h' (own' ++ rest) → (∀ p ∈ own', p.1 ≠ st → p.1 ≠ ls → ∀ q ∈ rest, q.1 ≠ p.1) → Post r own' → Q r { s with heap := h', toks := tk' }) :
    wpAny (model prog w) ((ktA dp un gd envs).deeper (envOf cn cs L a ccd)) (call (.ref f) args) Q E s := by
  obtain ⟨a1, a2, a3⟩ := p1.mem
  obtain ⟨b1, b2, b3⟩ := p2.mem
  refine hc_use (rest := rest) c C F (fun p hp => N p ?_) hk (fun p hp h => ?_) hd' hu (fun r own' h' tk' F' N' h P => ret r own' h' tk' F' N' (fun p hp h1 h2 q hq => ?_) P) (fun _ _ _ _ _ h => h.elim)
  · rcases List.mem_append.mp hp with hp | hp
    · rcases List.mem_cons.mp hp with rfl | hp
      · exact a1
      · rw [List.mem_singleton.mp hp]; exact a2 _ b1
    · exact a2 _ (b2 _ hp)
  · simp only [ads, List.map_cons, List.map_nil, List.mem_cons, List.not_mem_nil, or_false] at h
    rcases h with h | h
    · exact a3 p (b2 p hp) h
    · exact b3 p hp h
  · rcases h p hp with h | h
    · simp only [ads, List.map_cons, List.map_nil, List.mem_cons, List.not_mem_nil, or_false] at h
      exact absurd h (by simp [h1, h2])
    · exact h q (List.mem_append_right _ hq)
theorem use_take {st ls : Addr} {o1 o2 : Obj} {tk : Tok} {fl : Bool} {k : Int} 
    {dp un : Nat} {gd : Option (List Code)} {base g : Heap} {envs : List Env} {s : Shared} {Q E : Value → Shared → Prop} {L : Addr} {m : Str → Option Value} {cn : Str} {cs : Scope} {a : Addr} {ccd : Value} {news r1 rest : List (Addr × Obj)}
    (hS : StB ls fl o1 o2) (C : At w mean mg mb (ktA dp un gd envs) base g envs) (F : Fr g L s.heap m) (N : News g L s.heap news) (hk : cs.kind = .function)
    (p1 : Pick st o1 news r1) (p2 : Pick ls o2 r1 rest) (hsl : @Ne Nat st ls) (hk1 : 1 ≤ k) (hk2 : k < 1073741824)
    (hd' : dp + 2 < recursionLimit) (hu : un + 211 < cLine)
    (ret : ∀ i t o1' o2' h' tk', 0 ≤ i → i < k → StB ls fl o1' o2' → Fr g L h' m → News g L h' ((st, o1') :: (ls, o2') :: rest) → Q (.int i t) { s with heap := h', toks := tk' }) :
    wpAny (model prog w) ((ktA dp un gd envs).deeper (envOf cn cs L a ccd)) (call (.ref 43) [.ref st, .int k tk]) Q E s := by
  refine hc_use2 (take_B hsl hS hk1 hk2) C F N hk p1 p2 hd' hu fun r own' h' tk' F' N' hn hP => ?_
  obtain ⟨i, t, o1', o2', rfl, h1, h2, h3, rfl⟩ := hP
  exact ret i t o1' o2' h' tk' h1 h2 h3 F' N'
end
--MACRO
local macro_rules | `(tactic| walk_at "m_pick") => `(tactic| first | (refine' Pick.head ?a; (case a => k_all)) | (refine' Pick.tail ?a ?b; (case a => k_ne); (case b => walk_at "m_pick")))
local macro_rules | `(tactic| walk_at "m_take") => `(tactic| (
  (with_reducible show wpAny _ _ (call (Value.ref 43) _) _ _ _);
  (with_reducible rename StB _ _ _ _ => hSt');
  k_dflt (refine' use_take hSt' ?C ?F ?N ?hk ?p1 ?p2 ?hsl ?k1 ?k2 ?hd ?hu ?_; (case C => k_asm); (case F => k_asm); (case N => k_asm); (case hk => rfl); (case p1 => walk_at "m_pick"); (case p2 => walk_at "m_pick"); (case hsl => omega); (case k1 => omega); (case k2 => omega); (case hd => omega); (case hu => omega));
  clear hSt';
  intro i' t' o1' o2' h' tk' hi1' hi2' hSt' F' N';
  (try dsimp only); (try k_fold); (try k_sweep)))
local macro_rules | `(tactic| walk_at "call ref") => `(tactic| walk_at "m_take")
--END

section
variable {prog : Program} {w : World} {mean : ExcName → Option Value} {mg mb : Str → Option Value} {A : Around} {E : Value → Shared → Prop} {s : Shared} {env : Env} {h₀ : Heap} {x : Str} {body : List Stmt} {Q : Flow → Shared → Prop}

/-- the end of a turn of a for: the walker of the loop (I) is as it was, the next state is there -/
def ForEnd {σ : Type} (h₀ : Heap) (L : Addr) (I : Addr) (oI : Obj) (Led : σ → List (Addr × Obj)) (ps : σ → List (Str × Value)) (x : Str) (stored : List Str) (m₀ : Str → Option Value) (P : σ → Prop) (s₁ s₂ : Shared) : Prop :=
  ∃ (c : σ) (h' : Heap) (tk : Nat) (m' : Str → Option Value) (news' : List (Addr × Obj)), s₂ = { s₁ with heap := h', toks := tk } ∧ Fr h₀ L h' m' ∧ News h₀ L h' news' ∧ (I, oI) ∈ news' ∧ (∀ p ∈ Led c, p ∈ news') ∧ NeAll I (Led c) ∧
    (∀ p ∈ ps c, m' p.1 = some p.2) ∧ (∀ z, z ≠ x → (∀ p ∈ ps c, z ≠ p.1) → stored.contains z = false → m' z = m₀ z) ∧ P c
def ForPost {σ : Type} (h₀ : Heap) (L : Addr) (I : Addr) (oI : Obj) (Led : σ → List (Addr × Obj)) (ps : σ → List (Str × Value)) (x : Str) (stored : List Str) (m₀ : Str → Option Value) (P : σ → Prop) (Q : Flow → Shared → Prop) (s₁ : Shared) (f : Flow) (s₂ : Shared) : Prop :=
  match f with
  | .ret v => Q (.ret v) s₂
  | .brk => Q .next s₂
  | _ => ForEnd h₀ L I oI Led ps x stored m₀ P s₁ s₂
theorem for_end {σ : Type} {L I : Addr} {oI : Obj} {Led : σ → List (Addr × Obj)} {ps : σ → List (Str × Value)} {stored : List Str} {m₀ m' : Str → Option Value} {P : σ → Prop} {s₁ : Shared} {h' : Heap} {tk : Nat} {news' : List (Addr × Obj)} (c : σ)
    (F : Fr h₀ L h' m') (N : News h₀ L h' news') (hI : (I, oI) ∈ news') (hn : ∀ p ∈ Led c, p ∈ news') (ha : NeAll I (Led c)) (hk : ∀ p ∈ ps c, m' p.1 = some p.2) (hr : ∀ z, z ≠ x → (∀ p ∈ ps c, z ≠ p.1) → stored.contains z = false → m' z = m₀ z) (hp : P c) :
    ForEnd h₀ L I oI Led ps x stored m₀ P s₁ { s₁ with heap := h', toks := tk } := ⟨c, h', tk, m', news', rfl, F, N, hI, hn, ha, hk, hr, hp⟩

/-- any walker of one object -/
theorem for_walk {σ : Type} {I : Addr} {n : Nat} {Pv : Nat → Value → Prop} {fp : List Addr} {St : Nat → Heap → Prop} {m₀ : Str → Option Value} (Led : σ → List (Addr × Obj)) (ps : σ → List (Str × Value)) (stored : List Str) (P : Nat → σ → Prop) (c₀ : σ)
    (W : Walks prog w A I fp [I] n Pv St) (hIf : I ∈ fp) (hfp : ∀ b ∈ fp, b ≠ I → (∃ o, h₀.get? b = some o) ∨ ∃ o, ∀ c : σ, (b, o) ∈ Led c) (hLf : env.locals ∉ fp) (hI0 : h₀.get? I = none) (hlive : ∀ i h, St i h → ∃ o, h.get? I = some o) (hst : St 0 s.heap)
    (F : Fr h₀ env.locals s.heap m₀) (N : News h₀ env.locals s.heap (Led c₀)) (hn : NeAll I (Led c₀)) (hk : ∀ p ∈ ps c₀, m₀ p.1 = some p.2) (hp : P 0 c₀)
    (turn : ∀ i v (c : σ) (u : Str → Option Value) h tk oI, i < n → Pv i v → P i c → NeAll I (Led c) → Fr h₀ env.locals h (fun y => if y = x then some v else kstB (fun z => if stored.contains z then u z else m₀ z) (ps c) y) → News h₀ env.locals h ((I, oI) :: Led c) →
      wpAny (model prog w) A (execs body env) (ForPost h₀ env.locals I oI Led ps x stored m₀ (P (i + 1)) Q { s with heap := h, toks := tk }) E { s with heap := h, toks := tk })
    (done : ∀ (c : σ) (u : Str → Option Value) h tk, P n c → NeAll I (Led c) → Fr h₀ env.locals h (fun y => if y = x then u y else kstB (fun z => if stored.contains z then u z else m₀ z) (ps c) y) → News h₀ env.locals h (Led c) → Q .next { s with heap := h, toks := tk }) :
    LoopAtV prog w A h₀ env x body Q E (.ref I) s := by
  let J : Nat → (Str → Option Value) → List (Addr × Obj) → Prop := fun i m nx => ∃ c : σ, nx = Led c ∧ (∀ p ∈ ps c, m p.1 = some p.2) ∧ (∀ z, z ≠ x → (∀ p ∈ ps c, z ≠ p.1) → stored.contains z = false → m z = m₀ z) ∧ P i c ∧ NeAll I (Led c)
  refine ⟨I, fp, [I], n, Pv, St, m₀, Led c₀, J, rfl, W, hLf, ?_, ?_, hst, F, N, ⟨c₀, rfl, hk, fun _ _ _ _ => rfl, hp, hn⟩, ?_, ?_⟩
  · intro b hb
    rw [List.mem_singleton.mp hb]; exact hI0
  · intro p hp' hb
    exact hn.ne p hp' (List.mem_singleton.mp hb)
  · rintro i v m₁ news₁ s₁ own ⟨hh', tk', rfl⟩ hin hP ⟨c, rfl, h1, h2, hp', hne⟩ hoff hown _ hmem hst' F₁ N₁
    obtain ⟨oI, hoI⟩ := hlive _ _ hst'
    have hI : (I, oI) ∈ own := hmem I hIf hI0 oI hoI
    have N₂ : News h₀ env.locals hh' ((I, oI) :: Led c) := fun p hp9 => by
      rcases List.mem_cons.mp hp9 with rfl | hp9
      · exact N₁ _ (List.mem_append_left _ hI)
      · exact N₁ _ (List.mem_append_right _ hp9)
    refine wpAny_mono (turn i v c m₁ hh' tk' oI hin hP hp' hne (kst_fr h1 h2 F₁) N₂) (fun f s₂ p => ?_) fun _ _ e => e
    have fin : ForEnd h₀ env.locals I oI Led ps x stored m₀ (P (i + 1)) { s with heap := hh', toks := tk' } s₂ → LoopStepU h₀ env.locals [I] own (J (i + 1)) { s with heap := hh', toks := tk' } .next s₂ := by
      rintro ⟨c', h', tk, m', news', e, F', N', hI', hn', ha', hk', hr', hp9⟩
      refine ⟨rfl, h', tk, m', Led c', e, F', fun p hp0 => ?_, fun p hp0 hq => ha'.ne p hp0 (List.mem_singleton.mp hq), c', rfl, hk', hr', hp9, ha'⟩
      rcases List.mem_append.mp hp0 with hp0 | hp0
      · have hpf := hown p hp0
        have hpg := N₁ p (List.mem_append_left _ hp0)
        by_cases q : p.1 = I
        · have : p.2 = oI := by
            have z := hpg.1
            rw [q, hoI] at z
            exact (Option.some.inj z).symm
          have e9 : p = (I, oI) := Prod.ext q this
          rw [e9]; exact N' _ hI'
        · rcases hfp _ hpf q with ⟨o, ho⟩ | ⟨o, ho⟩
          · rw [hpg.2.2] at ho; cases ho
          · have z := (N₁ _ (List.mem_append_right _ (ho c))).1
            have : p.2 = o := by rw [hpg.1] at z; exact Option.some.inj z
            have e9 : p = (p.1, o) := Prod.ext rfl this
            rw [e9]; exact N' _ (hn' _ (ho c'))
      · exact N' p (hn' p hp0)
    cases f with
    | ret v => exact .ret p
    | brk => exact .brk p
    | next => exact .next (fin p)
    | cont => exact .cont (fin p)
  · rintro h' tk m' news' F' N' _ ⟨c, rfl, h1, h2, hp', hne⟩
    exact done c m' h' tk hp' hne (kst_frOut h1 h2 F') N'

theorem for_range {σ : Type} {r : Addr} {a₀ b₀ : Int} {t₀ u₀ v₀ : Tok} {n : Nat} {m₀ : Str → Option Value} (Led : σ → List (Addr × Obj)) (ps : σ → List (Str × Value)) (stored : List Str) (P : Nat → σ → Prop) (c₀ : σ)
    (hh : A.handled = none) (hr : IsRange s.heap r a₀ b₀ 1 t₀ u₀ v₀) (hsmall : Builtin.Range.small a₀ b₀ 1 = true) (hn : Builtin.Range.rangeSize a₀ b₀ 1 = (n : Int)) (F : Fr h₀ env.locals s.heap m₀) (N : News h₀ env.locals s.heap (Led c₀))
    (hk : ∀ p ∈ ps c₀, m₀ p.1 = some p.2) (hp : P 0 c₀)
    (turn : ∀ i t (c : σ) (u : Str → Option Value) h tk I oI, i < n → P i c → NeAll I (Led c) → Fr h₀ env.locals h (fun y => if y = x then some (.int (a₀ + (i : Int)) t) else kstB (fun z => if stored.contains z then u z else m₀ z) (ps c) y) → News h₀ env.locals h ((I, oI) :: Led c) →
      wpAny (model prog w) A (execs body env) (ForPost h₀ env.locals I oI Led ps x stored m₀ (P (i + 1)) Q { s with heap := h, toks := tk }) E { s with heap := h, toks := tk })
    (done : ∀ (c : σ) (u : Str → Option Value) h tk, P n c → Fr h₀ env.locals h (fun y => if y = x then u y else kstB (fun z => if stored.contains z then u z else m₀ z) (ps c) y) → News h₀ env.locals h (Led c) → Q .next { s with heap := h, toks := tk }) :
    wpAny (model prog w) A (pyIter (.ref r)) (fun it s₂ => LoopAtV prog w A h₀ env x body Q E it s₂) E s := by
  refine wpAny_pyIter_range hr hsmall ?_
  have W : Walks prog w A s.heap.objs.size [s.heap.objs.size] [s.heap.objs.size] n (fun i v => i < n ∧ ∃ t, v = .int (a₀ + i * 1) t)
      (fun i h => IsRangeIter h s.heap.objs.size (a₀ + (i : Nat) * 1) ((n : Int) - (i : Nat)) 1) := (Walks.range hh _ a₀ 1 n).bound
  refine for_walk (σ := σ) Led ps stored P c₀ W (List.mem_singleton.mpr rfl) (fun b hb q => absurd (List.mem_singleton.mp hb) q) ?_ (next_is_new F) (fun i h st => ⟨_, st⟩) (by show IsRangeIter _ _ _ _ _; rw [hn]; simpa using Heap.get?_push_size _ rfl) (F.push _)
    (fun p hp => ⟨Heap.get?_push_of_some _ (N p hp).1, (N p hp).2⟩) (neAll_of fun q hq => Nat.ne_of_lt (Heap.lt_size (N q hq).1)) hk hp ?_ ?_
  · intro hm
    exact absurd F.ns.lt ((List.mem_singleton.mp hm) ▸ Nat.lt_irrefl _)
  · rintro i v c u h tk oI hi ⟨_, t, rfl⟩ hP hne F₁ N₁
    have e1 : a₀ + (i : Int) * 1 = a₀ + (i : Int) := by omega
    rw [e1] at F₁
    exact turn i t c u h tk _ oI hi hP hne F₁ N₁
  · intro c u h tk hP _ F₁ N₁
    exact done c u h tk hP F₁ N₁

theorem for_list {σ : Type} {l : Addr} {vs : List Value} {nn : Nat} {m₀ : Str → Option Value} (Led : σ → List (Addr × Obj)) (ps : σ → List (Str × Value)) (stored : List Str) (P : Nat → σ → Prop) (c₀ : σ)
    (hh : A.handled = none) (hl : ∀ c, (l, listOf vs.toArray nn) ∈ Led c) (F : Fr h₀ env.locals s.heap m₀) (N : News h₀ env.locals s.heap (Led c₀))
    (hk : ∀ p ∈ ps c₀, m₀ p.1 = some p.2) (hp : P 0 c₀)
    (turn : ∀ i v (c : σ) (u : Str → Option Value) h tk I oI, vs[i]? = some v → P i c → NeAll I (Led c) → Fr h₀ env.locals h (fun y => if y = x then some v else kstB (fun z => if stored.contains z then u z else m₀ z) (ps c) y) → News h₀ env.locals h ((I, oI) :: Led c) →
      wpAny (model prog w) A (execs body env) (ForPost h₀ env.locals I oI Led ps x stored m₀ (P (i + 1)) Q { s with heap := h, toks := tk }) E { s with heap := h, toks := tk })
    (done : ∀ (c : σ) (u : Str → Option Value) h tk, P vs.length c → Fr h₀ env.locals h (fun y => if y = x then u y else kstB (fun z => if stored.contains z then u z else m₀ z) (ps c) y) → News h₀ env.locals h (Led c) → Q .next { s with heap := h, toks := tk }) :
    wpAny (model prog w) A (pyIter (.ref l)) (fun it s₂ => LoopAtV prog w A h₀ env x body Q E it s₂) E s := by
  have hol := (N _ (hl c₀)).1
  have hls : s.heap.IsList l vs.toArray := PySem.IsL.isList (n := nn) hol
  have hlt : l < s.heap.objs.size := Heap.lt_size hol
  have hne : l ≠ s.heap.objs.size := Nat.ne_of_lt hlt
  refine wpAny_pyIter_list hls ?_
  have W := Walks.list (prog := prog) (w := w) hh s.heap.objs.size l hne vs.toArray
  refine for_walk (σ := σ) (n := vs.toArray.size) Led ps stored P c₀ W List.mem_cons_self (fun b hb q => ?_) ?_ (next_is_new F) (fun i h st => by obtain ⟨o, e, _⟩ := st.1; exact ⟨o, e⟩) ⟨⟨_, Heap.get?_push_size _ rfl, rfl, rfl⟩, hls.at fun o e => Heap.get?_push_of_some _ e⟩ (F.push _)
    (fun p hp => ⟨Heap.get?_push_of_some _ (N p hp).1, (N p hp).2⟩) (neAll_of fun q hq => Nat.ne_of_lt (Heap.lt_size (N q hq).1)) hk hp ?_ ?_
  · rcases List.mem_cons.mp hb with e | hb
    · exact absurd e q
    · rw [List.mem_singleton.mp hb]
      exact .inr ⟨_, hl⟩
  · intro hm
    rcases List.mem_cons.mp hm with e | hm
    · exact absurd F.ns.lt (e ▸ Nat.lt_irrefl _)
    · have := (N _ (hl c₀)).2.1
      exact this (List.mem_singleton.mp hm).symm
  · rintro i v c u h tk oI hi hP hPc hne F₁ N₁
    exact turn i v c u h tk _ oI (by simpa using hP) hPc hne F₁ N₁
  · intro c u h tk hP _ F₁ N₁
    exact done c u h tk (by simpa using hP) F₁ N₁
theorem for_ints {σ : Type} {l : Addr} {vs : List Value} {ns : List Int} {nn : Nat} {m₀ : Str → Option Value} (Led : σ → List (Addr × Obj)) (ps : σ → List (Str × Value)) (stored : List Str) (P : List Int → σ → Prop) (c₀ : σ)
    (hh : A.handled = none) (hi : IntsAre vs ns) (hl : ∀ c, (l, listOf vs.toArray nn) ∈ Led c) (F : Fr h₀ env.locals s.heap m₀) (N : News h₀ env.locals s.heap (Led c₀))
    (hk : ∀ p ∈ ps c₀, m₀ p.1 = some p.2) (hp : P [] c₀)
    (turn : ∀ pre n t (c : σ) (u : Str → Option Value) h tk I oI, n ∈ ns → P pre c → NeAll I (Led c) → Fr h₀ env.locals h (fun y => if y = x then some (.int n t) else kstB (fun z => if stored.contains z then u z else m₀ z) (ps c) y) → News h₀ env.locals h ((I, oI) :: Led c) →
      wpAny (model prog w) A (execs body env) (ForPost h₀ env.locals I oI Led ps x stored m₀ (P (pre ++ [n])) Q { s with heap := h, toks := tk }) E { s with heap := h, toks := tk })
    (done : ∀ (c : σ) (u : Str → Option Value) h tk, P ns c → Fr h₀ env.locals h (fun y => if y = x then u y else kstB (fun z => if stored.contains z then u z else m₀ z) (ps c) y) → News h₀ env.locals h (Led c) → Q .next { s with heap := h, toks := tk }) :
    wpAny (model prog w) A (pyIter (.ref l)) (fun it s₂ => LoopAtV prog w A h₀ env x body Q E it s₂) E s := by
  refine for_list (σ := σ) Led ps stored (fun i c => P (ns.take i) c) c₀ hh hl F N hk (by simpa using hp) ?_ ?_
  · intro i v c u h tk I oI hv hP hne F₁ N₁
    obtain ⟨n, t, rfl, hn⟩ := hi.at i v hv
    have e : ns.take (i + 1) = ns.take i ++ [n] := by simp [List.take_add_one, hn]
    have z := turn (ns.take i) n t c u h tk I oI (List.mem_of_getElem? hn) hP hne F₁ N₁
    rw [e]
    exact z
  · intro c u h tk hP F₁ N₁
    rw [hi.length, List.take_length] at hP
    exact done c u h tk hP F₁ N₁
end
theorem intsAre_snoc {vs : List Value} {ns : List Int} (h : IntsAre vs ns) (x : Int) (t : Tok) : IntsAre (vs ++ [.int x t]) (ns ++ [x]) := by
  induction h with
  | nil => exact .cons x t .nil
  | cons i t' h ih => exact .cons i t' ih
def BytesL (bs : List Int) : Prop := ∀ x ∈ bs, 0 ≤ x ∧ x < 256
theorem BytesL.nil : BytesL [] := fun _ h => nomatch h
theorem BytesL.cons {x : Int} {b : List Int} (h0 : 0 ≤ x) (h1 : x < 256) (h : BytesL b) : BytesL (x :: b) := fun y hy => by
  rcases List.mem_cons.mp hy with e | hy
  · rw [e]; exact ⟨h0, h1⟩
  · exact h y hy
theorem BytesL.append {a b : List Int} (h : BytesL a) (k : BytesL b) : BytesL (a ++ b) := fun x hx => (List.mem_append.mp hx).elim (h x) (k x)
theorem bytesL_snoc {bs : List Int} {x : Int} (h : BytesL bs) (h0 : 0 ≤ x) (h1 : x < 256) : BytesL (bs ++ [x]) := h.append fun y hy => by rw [List.mem_singleton.mp hy]; exact ⟨h0, h1⟩
theorem getD_all {P : Int → Prop} {l : List Int} (h : ∀ x ∈ l, P x) (h0 : P 0) (n : Nat) : P (l.getD n 0) := by
  rw [List.getD_eq_getElem?_getD]
  cases e : l[n]? with
  | none => exact h0
  | some x => exact h x (List.mem_of_getElem? e)
theorem news_sub {g h : Heap} {L : Addr} {l l' : List (Addr × Obj)} (N : News g L h l) (hs : ∀ p ∈ l', p ∈ l) : News g L h l' := fun p hp => N p (hs p hp)
/-- a def that hands back a new list of octets and turns the law's state -/
def PostL (st ls : Addr) (ex : List (Addr × Obj)) (Z : Bool → List Int → Prop) (r : Value) (own' : List (Addr × Obj)) : Prop :=
  ∃ a o1' o2' n bs vs fl', r = .ref a ∧ StB ls fl' o1' o2' ∧ @Ne Nat a st ∧ @Ne Nat a ls ∧ NeAll a ex ∧ IntsAre vs bs ∧ BytesL bs ∧ Z fl' bs ∧ own' = [(st, o1'), (ls, o2'), (a, lsO vs n)]
theorem fin_list {g h' : Heap} {s : Shared} {L a st ls : Addr} {o1' o2' : Obj} {n : Nat} {bs : List Int} {vs : List Value} {fl' : Bool} {Z : Bool → List Int → Prop} {m : Str → Option Value} {own ex ledger : List (Addr × Obj)} {Q : Value → Shared → Prop} {tk' : Nat}
    (ret : ∀ r own' h' tk', Kp (ads own) s.heap h' → LedAt s.heap h' own own' → PostL st ls ex Z r own' → Q r { s with heap := h', toks := tk' }) (KG : Kp (ads own) s.heap g)
    (hS : StB ls fl' o1' o2') (F : Fr g L h' m) (N : News g L h' ledger) (hs : ∀ p ∈ [(st, o1'), (ls, o2'), (a, lsO vs n)], p ∈ ledger) (n1 : @Ne Nat a st) (n2 : @Ne Nat a ls) (n3 : NeAll a ex) (hI : IntsAre vs bs) (hB : BytesL bs) (hZ : Z fl' bs) :
    Fin (Q (.ref a) { s with heap := h', toks := tk' }) :=
  fin_ret ret KG F (news_sub N hs) ⟨a, o1', o2', n, bs, vs, fl', rfl, hS, n1, n2, n3, hI, hB, hZ, rfl⟩
/-- a call of such a def -/
theorem use_list {n : Nat} {f : Addr} {args : List Value} {st ls : Addr} {o1 o2 : Obj} {ex : List (Addr × Obj)} {Z : Bool → List Int → Prop} (c : HC prog w mean mg mb n f args ((st, o1) :: (ls, o2) :: ex) (PostL st ls ex Z) False)
    {dp un : Nat} {gd : Option (List Code)} {base g : Heap} {envs : List Env} {s : Shared} {Q E : Value → Shared → Prop} {L : Addr} {m : Str → Option Value} {cn : Str} {cs : Scope} {a : Addr} {ccd : Value} {news r1 rest0 rest : List (Addr × Obj)}
    (C : At w mean mg mb (ktA dp un gd envs) base g envs) (F : Fr g L s.heap m) (N : News g L s.heap news) (hk : cs.kind = .function)
    (p1 : Pick st o1 news r1) (p2 : Pick ls o2 r1 rest0) (hex : ∀ p ∈ ex, p ∈ news) (hr1 : ∀ p ∈ rest, p ∈ rest0) (hr2 : ∀ p ∈ rest, ∀ q ∈ ex, p.1 ≠ q.1)
    (hd' : dp + 1 + n < recursionLimit) (hu : un + 3 + 8 * n + 200 < cLine)
    (ret : ∀ a o1' o2' n bs vs fl' h' tk', StB ls fl' o1' o2' → @Ne Nat a st → @Ne Nat a ls → NeAll a ex → NeAll a rest → IntsAre vs bs → BytesL bs → Z fl' bs → Fr g L h' m → News g L h' ((st, o1') :: (ls, o2') :: (a, lsO vs n) :: rest) → Q (.ref a) { s with heap := h', toks := tk' }) :
    wpAny (model prog w) ((ktA dp un gd envs).deeper (envOf cn cs L a ccd)) (call (.ref f) args) Q E s := by
  obtain ⟨a1, a2, a3⟩ := p1.mem
  obtain ⟨b1, b2, b3⟩ := p2.mem
  refine hc_use (rest := rest) c C F (fun p hp => N p ?_) hk (fun p hp h => ?_) hd' hu (fun r own' h' tk' F' N' hn hP => ?_) (fun _ _ _ _ _ h => h.elim)
  · rcases List.mem_append.mp hp with hp | hp
    · rcases List.mem_cons.mp hp with rfl | hp
      · exact a1
      · rcases List.mem_cons.mp hp with rfl | hp
        · exact a2 _ b1
        · exact hex p hp
    · exact a2 _ (b2 _ (hr1 p hp))
  · simp only [ads, List.map_cons, List.mem_cons] at h
    rcases h with h | h | h
    · exact a3 p (b2 p (hr1 p hp)) h
    · exact b3 p (hr1 p hp) h
    · obtain ⟨q, hq, e⟩ := List.mem_map.mp h
      exact hr2 p hp q hq e.symm
  · obtain ⟨a, o1', o2', n, bs, vs, fl', rfl, h1, h2, h3, h4, h5, h6, h7, rfl⟩ := hP
    refine ret a o1' o2' n bs vs fl' h' tk' h1 h2 h3 h4 (neAll_of fun q hq => ?_) h5 h6 h7 F' N'
    rcases hn (a, lsO vs n) (by simp) with h | h
    · simp only [ads, List.map_cons, List.mem_cons] at h
      rcases h with h | h | h
      · exact absurd h h2
      · exact absurd h h3
      · obtain ⟨q', hq', e⟩ := List.mem_map.mp h
        exact absurd e (h4.ne q' hq')
    · exact h q (List.mem_append_right _ hq)
theorem news_subN {g h : Heap} {L : Addr} {l l' : List (Addr × Obj)} (N : News g L h l) (hs : ∀ p ∈ l', p ∈ l) : News g L h l' := fun p hp => N p (hs p hp)
def Stop (P : Prop) : Prop := P
theorem stop_it {P : Prop} (h : Stop P) : P := h
--MACRO
local macro_rules | `(tactic| walk_at "m_sub") => `(tactic| first | exact List.forall_mem_nil _ | (refine' List.forall_mem_cons.mpr ⟨?a, ?b⟩; (case a => k_mem); (case b => walk_at "m_sub")))
local macro_rules | `(tactic| walk_at "m_ne") => `(tactic| first | exact True.intro | (refine' And.intro ?a ?b; (case a => (try dsimp only); omega); (case b => walk_at "m_ne")))
local macro_rules | `(tactic| walk_at "m_all") => `(tactic| first | exact List.forall_mem_nil _ | (refine' List.forall_mem_cons.mpr ⟨?a, ?b⟩; (case a => with_unfolding_all rfl); (case b => walk_at "m_all")))
local macro_rules | `(tactic| walk_at "m_same") => `(tactic| (intro z h1 h2 h3; first
  | rfl
  | (simp [kstB, h1]; done)
  | ((simp only [List.forall_mem_cons, List.not_mem_nil, false_implies, implies_true, and_true, ne_eq] at h2); (simp only [List.contains_cons, List.contains_nil, Bool.or_false, Bool.or_eq_false_iff, beq_eq_false_iff_ne, ne_eq] at h3); (simp [kstB, h1, h2, h3]; done))))
local macro_rules | `(tactic| walk_at "m_sameW") => `(tactic| (intro z h2 h3; first
  | rfl
  | ((simp only [List.forall_mem_cons, List.not_mem_nil, false_implies, implies_true, and_true, ne_eq] at h2); (simp only [List.contains_cons, List.contains_nil, Bool.or_false, Bool.or_eq_false_iff, beq_eq_false_iff_ne, ne_eq] at h3); (simp [kstB, h2, h3]; done))))
local macro_rules | `(tactic| walk_at "m_ints") => `(tactic| first | assumption | exact IntsAre.nil | (refine' IntsAre.cons _ _ ?a; (case a => walk_at "m_ints")))
local macro_rules | `(tactic| walk_at "m_bytes") => `(tactic| first | assumption | exact BytesL.nil | (refine' BytesL.cons ?a ?b ?c; (case a => omega); (case b => omega); (case c => walk_at "m_bytes")))
local macro_rules | `(tactic| walk_at "m_forend") => `(tactic| (
  (rename News _ _ _ _ => N9'); (rename Fr _ _ _ _ => F9');
  (try simp only [List.push_toArray] at N9');
  (refine' for_end ⟨?_, ?_⟩ F9' N9' ?hI ?hn ?ha ?hk ?hr ?hp; (case hI => k_mem); (case hn => walk_at "m_sub"); (case ha => walk_at "m_ne"); (case hk => walk_at "m_all"); (case hr => walk_at "m_same"))))
local macro_rules | `(tactic| walk_at "pyIter ref") => `(tactic| ((with_reducible show wpAny _ _ (pyIter (Value.ref _)) (fun it s₂ => LoopAtV _ _ _ _ _ _ _ _ _ it s₂) _ _); refine stop_it ?_))
local macro_rules | `(tactic| walk_at "exec While BoolOp cons nil") => `(tactic| ((with_reducible show wpAny _ _ (exec (Stmt.While _ _ _ _) _) _ _ _); refine stop_it ?_))
local macro_rules | `(tactic| walk_at "exec While Constant cons nil") => `(tactic| ((with_reducible show wpAny _ _ (exec (Stmt.While _ _ _ _) _) _ _ _); refine stop_it ?_))
local macro_rules | `(tactic| walk_at "exec While BoolOp") => `(tactic| ((with_reducible show wpAny _ _ (exec (Stmt.While _ _ _ _) _) _ _ _); refine stop_it ?_))
local macro_rules | `(tactic| walk_at "exec While Constant") => `(tactic| ((with_reducible show wpAny _ _ (exec (Stmt.While _ _ _ _) _) _ _ _); refine stop_it ?_))
local macro_rules | `(tactic| walk_at "exec While") => `(tactic| ((with_reducible show wpAny _ _ (exec (Stmt.While _ _ _ _) _) _ _ _); refine stop_it ?_))
local macro_rules | `(tactic| walk_at "KswEnd") => `(tactic| refine stop_it ?_)
--END

section
variable {prog : Program} {w : World} {mean : ExcName → Option Value} {mg mb : Str → Option Value}
set_option maxHeartbeats 8000000 in
theorem some_spec {st ls : Addr} {o1 o2 : Obj} {tk : Tok} {fl : Bool} {k : Int} (hsl : @Ne Nat st ls) (hS : StB ls fl o1 o2) (hk1 : 0 ≤ k) (hk2 : k ≤ 100) :
   HC prog w mean mg mb 3 50 [.ref st, .int k tk] [(st, o1), (ls, o2)] (PostL st ls [] fun fl' bs => fl' = fl ∧ bs.length = k.toNat) False := by
  intro dp un gd base envs s Q E C O hd hu ret rz
  refine hc_enter C O (by omega) (by k_dflt k_is) (by k_dflt k_is) (fun _ _ => BindsTo.of_eq rfl) (locs rfl) rfl rfl rfl (by decide) ?_
  intro g L h₁ F N B X T KG GS
  have C' : At w mean mg mb (ktA dp un gd envs) base g envs := ⟨B, C.X, C.T⟩
  dsimp only
  k_steps
  rename_i l' _ l1 _ F1 N1 _ _ _ _ _ hR F2 N2 _
  show wpAny _ _ _ _ _ _
  refine for_range (σ := Obj × Obj × Nat × List Value × List Int) (fun c => [(l', lsO c.2.2.2.1 c.2.2.1), (st, c.1), (ls, c.2.1)]) (fun _ => []) [] (fun i c => StB ls fl c.1 c.2.1 ∧ IntsAre c.2.2.2.1 c.2.2.2.2 ∧ BytesL c.2.2.2.2 ∧ c.2.2.2.2.length = i) (o1, o2, 0, [], []) rfl hR
    (small_one (by omega) (by omega) (by omega) (by omega)) (rangeSize_nat _ _) F2 N2 (List.forall_mem_nil _) ⟨hS, .nil, (fun _ h => nomatch h), rfl⟩ ?_ ?_
  · clear N1 N2 F2 hR hS F1
    rintro i t ⟨o1', o2', nn, vs, bs⟩ u h tk' I oI hi ⟨hS, hV, hB, hl⟩ hne F N
    dsimp only at hS hV hB hl hne F N ⊢
    simp only [NeAll, and_true] at hne
    k_steps
    all_goals dsimp only [ForPost]
    all_goals
      rename News _ _ _ _ => N9'
      (try simp only [List.push_toArray] at N9')
      refine for_end ⟨_, _, _, _, _⟩ (by k_asm) N9' (by k_mem) (by walk_at "m_sub") (by walk_at "m_ne") (by walk_at "m_all") (by walk_at "m_same") ⟨by assumption, intsAre_snoc hV _ _, ?_, ?_⟩
    · exact bytesL_snoc hB (getD_all (P := fun x => 0 ≤ x) (by decide) (by decide) _) (getD_all (P := fun x => x < 256) (by decide) (by decide) _)
    · simp [hl]
    · exact bytesL_snoc hB (by assumption) (by assumption)
    · simp [hl]
  · clear N1 N2 F2 hR hS F1
    rintro ⟨o1', o2', nn, vs, bs⟩ u h tk' ⟨hS, hV, hB, hl⟩ F N
    dsimp only at hS hV hB hl F N ⊢
    k_steps
    dsimp only
    refine fin_list ret KG (by k_asm) (by k_asm) N (by walk_at "m_sub") (by omega) (by omega) trivial hV hB ⟨rfl, by rw [hl]; omega⟩
end

section
variable {prog : Program} {w : World} {mean : ExcName → Option Value} {mg mb : Str → Option Value}
theorem set_flag {A : Around} {E : Value → Shared → Prop} {s : Shared} {h₀ : Heap} {L : Addr} {m : Str → Option Value} {st ls : Addr} {o1 o2 : Obj} {fl b : Bool} {t : Tok} {news r1 : List (Addr × Obj)} {Q : Unit → Shared → Prop}
    (hS : StB ls fl o1 o2) (F : Fr h₀ L s.heap m) (N : News h₀ L s.heap news) (p1 : Pick st o1 news r1)
    (h : ∀ o1' h', StB ls b o1' o2 → Fr h₀ L h' m → News h₀ L h' ((st, o1') :: r1) → Q () { s with heap := h' }) :
    wpAny (model prog w) A (setItem (.ref st) (.int 3 t) (.bool b)) Q E s := by
  obtain ⟨cur, seed, t1, t2, n1, vs, n2, rfl, rfl, hS⟩ := hS
  obtain ⟨a1, a2, a3⟩ := p1.mem
  refine ki_set (q := [.ref ls, .int cur t1, .int seed t2, .bool b]) F (news_sub N (l' := (st, stO ls cur seed fl t1 t2 n1) :: r1) ?_) (by decide) (by decide) rfl (Upd.head a3) fun h' F' N' => h _ h' ⟨cur, seed, t1, t2, n1, vs, n2, rfl, rfl, hS⟩ F' N'
  intro p hp
  rcases List.mem_cons.mp hp with rfl | hp
  · exact a1
  · exact a2 _ hp

/-- the tag's octets -/
def GoodFirst (me : Int) (bs : List Int) : Prop :=
  (∃ x, bs = [x] ∧ 0 ≤ x ∧ x < 256 ∧ 1 ≤ x % 32 ∧ x % 32 ≤ 30 ∧ x / 32 % 2 = me) ∨
  (∃ x d, bs = [x, d] ∧ 0 ≤ x ∧ x < 256 ∧ x % 32 = 31 ∧ x / 32 % 2 = me ∧ 31 ≤ d ∧ d < 128) ∨
  (∃ x d e, bs = [x, d, e] ∧ 0 ≤ x ∧ x < 256 ∧ x % 32 = 31 ∧ x / 32 % 2 = me ∧ 129 ≤ d ∧ d < 256 ∧ 0 ≤ e ∧ e < 128)
end
--MACRO
local macro_rules | `(tactic| walk_at "setItem ref int") => `(tactic| (
  (with_reducible show wpAny _ _ (setItem (Value.ref _) (Value.int 3 _) (Value.bool _)) _ _ _);
  (with_reducible rename StB _ _ _ _ => hSt');
  k_dflt (refine' set_flag hSt' ?F ?N ?p1 ?_; (case F => k_asm); (case N => k_asm); (case p1 => walk_at "m_pick"));
  clear hSt'; intro o1' h' hSt' F' N'; (try dsimp only); (try k_fold); (try k_sweep)))
--END
section
variable {prog : Program} {w : World} {mean : ExcName → Option Value} {mg mb : Str → Option Value}
set_option maxHeartbeats 8000000 in
theorem first_spec {st ls : Addr} {o1 o2 : Obj} {tk : Tok} {fl : Bool} {k : Int} (hsl : @Ne Nat st ls) (hS : StB ls fl o1 o2) (hk1 : 0 ≤ k) (hk2 : k ≤ 1) :
   HC prog w mean mg mb 3 57 [.ref st, .int k tk] [(st, o1), (ls, o2)] (PostL st ls [] fun fl' bs => 1 ≤ bs.length ∧ bs.length ≤ 3 ∧ (fl' = true → fl = true ∧ GoodFirst k bs)) False := by
  intro dp un gd base envs s Q E C O hd hu ret rz
  refine hc_enter C O (by omega) (by k_dflt k_is) (by k_dflt k_is) (fun _ _ => BindsTo.of_eq rfl) (locs rfl) rfl rfl rfl (by decide) ?_
  intro g L h₁ F N B X T KG GS
  have C' : At w mean mg mb (ktA dp un gd envs) base g envs := ⟨B, C.X, C.T⟩
  dsimp only
  k_steps
  all_goals dsimp only
  all_goals
    rename News _ _ _ _ => N9'
    refine fin_list ret KG (by k_asm) (by k_asm) N9' (by walk_at "m_sub") (by omega) (by omega) trivial (by walk_at "m_ints") (by walk_at "m_bytes") ⟨by simp, by simp, ?_⟩
  · exact fun h => ⟨h, .inr (.inl ⟨_, _, rfl, by omega, by omega, by omega, by omega, by omega, by omega⟩)⟩
  · exact fun h => ⟨h, .inr (.inr ⟨_, _, _, rfl, by omega, by omega, by omega, by omega, by omega, by omega, by omega, by omega⟩)⟩
  · exact fun h => nomatch h
  · exact fun h => nomatch h
  · exact fun h => ⟨h, .inl ⟨_, rfl, by omega, by omega, by omega, by omega, by omega⟩⟩
end

section
variable {prog : Program} {w : World} {mean : ExcName → Option Value} {mg mb : Str → Option Value}
def GoodLen (n : Int) (lb : List Int) : Prop := (lb = [n] ∧ n < 128) ∨ lb = [129, n] ∧ n < 256 ∨ lb = [130, n / 256, n % 256] ∨ lb = [131, 0, n / 256, n % 256]
theorem gl1 {n : Int} (h : 0 ≤ n) (k : n < 256) : BytesL [129, n] ∧ GoodLen n [129, n] := ⟨.cons (by omega) (by omega) (.cons (by omega) (by omega) .nil), .inr (.inl ⟨rfl, k⟩)⟩
theorem gl0 {n : Int} (h : 0 ≤ n) (k : n < 128) : BytesL [n] ∧ GoodLen n [n] := ⟨.cons (by omega) (by omega) .nil, .inl ⟨rfl, k⟩⟩
theorem gl3 {n : Int} (h : 0 ≤ n) (k : n ≤ 600) : BytesL [130, n.fdiv 256, n.fmod 256] ∧ GoodLen n [130, n.fdiv 256, n.fmod 256] := by
  rw [Int.fdiv_eq_ediv_of_nonneg n (by decide), Int.fmod_eq_emod_of_nonneg n (by decide)]
  exact ⟨.cons (by omega) (by omega) (.cons (by omega) (by omega) (.cons (by omega) (by omega) .nil)), .inr (.inr (.inl rfl))⟩
theorem gl4 {n : Int} (h : 0 ≤ n) (k : n ≤ 600) : BytesL [131, 0, n.fdiv 256, n.fmod 256] ∧ GoodLen n [131, 0, n.fdiv 256, n.fmod 256] := by
  rw [Int.fdiv_eq_ediv_of_nonneg n (by decide), Int.fmod_eq_emod_of_nonneg n (by decide)]
  exact ⟨.cons (by omega) (by omega) (.cons (by omega) (by omega) (.cons (by omega) (by omega) (.cons (by omega) (by omega) .nil))), .inr (.inr (.inr rfl))⟩
set_option maxHeartbeats 8000000 in
theorem sized_spec {st ls fa ba : Addr} {o1 o2 : Obj} {fl : Bool} {vf vb : List Value} {bf bb : List Int} {nf nb : Nat} (hsl : @Ne Nat st ls) (hfs : @Ne Nat fa st) (hfl : @Ne Nat fa ls) (hbs : @Ne Nat ba st) (hbl : @Ne Nat ba ls) (hS : StB ls fl o1 o2)
   (hVf : IntsAre vf bf) (hVb : IntsAre vb bb) (hBf : BytesL bf) (hBb : BytesL bb) (hlf : bf.length ≤ 3) (hlb : bb.length ≤ 600) :
   HC prog w mean mg mb 3 64 [.ref st, .ref fa, .ref ba] [(st, o1), (ls, o2), (fa, lsO vf nf), (ba, lsO vb nb)] (PostL st ls [(fa, lsO vf nf), (ba, lsO vb nb)] fun fl' bs => fl' = fl ∧ ∃ lb, GoodLen (bb.length : Int) lb ∧ bs = bf ++ lb ++ bb) False := by
  intro dp un gd base envs s Q E C O hd hu ret rz
  refine hc_enter C O (by omega) (by k_dflt k_is) (by k_dflt k_is) (fun _ _ => BindsTo.of_eq rfl) (locs rfl) rfl rfl rfl (by decide) ?_
  intro g L h₁ F N B X T KG GS
  have C' : At w mean mg mb (ktA dp un gd envs) base g envs := ⟨B, C.X, C.T⟩
  have hnn : (0 : Int) ≤ (bb.length : Int) := by omega
  have hnk : (bb.length : Int) ≤ 600 := by omega
  dsimp only
  k_steps
  all_goals dsimp only
  all_goals
    rename News _ _ _ _ => N9'
    rename IntsAre _ _ => hI9'
  · exact fin_list ret KG (by k_asm) (by k_asm) N9' (by walk_at "m_sub") (by omega) (by omega) (by walk_at "m_ne") hI9' ((hBf.append (gl1 hnn (by omega)).1).append hBb) ⟨rfl, _, (gl1 hnn (by omega)).2, rfl⟩
  · exact fin_list ret KG (by k_asm) (by k_asm) N9' (by walk_at "m_sub") (by omega) (by omega) (by walk_at "m_ne") hI9' ((hBf.append (gl4 hnn hnk).1).append hBb) ⟨rfl, _, (gl4 hnn hnk).2, rfl⟩
  · exact fin_list ret KG (by k_asm) (by k_asm) N9' (by walk_at "m_sub") (by omega) (by omega) (by walk_at "m_ne") hI9' ((hBf.append (gl3 hnn hnk).1).append hBb) ⟨rfl, _, (gl3 hnn hnk).2, rfl⟩
  · exact fin_list ret KG (by k_asm) (by k_asm) N9' (by walk_at "m_sub") (by omega) (by omega) (by walk_at "m_ne") hI9' ((hBf.append (gl4 hnn hnk).1).append hBb) ⟨rfl, _, (gl4 hnn hnk).2, rfl⟩
  · exact fin_list ret KG (by k_asm) (by k_asm) N9' (by walk_at "m_sub") (by omega) (by omega) (by walk_at "m_ne") hI9' ((hBf.append (gl0 hnn (by omega)).1).append hBb) ⟨rfl, _, (gl0 hnn (by omega)).2, rfl⟩
  · exact fin_list ret KG (by k_asm) (by k_asm) N9' (by walk_at "m_sub") (by omega) (by omega) (by walk_at "m_ne") hI9' ((hBf.append (gl3 hnn hnk).1).append hBb) ⟨rfl, _, (gl3 hnn hnk).2, rfl⟩
end

section
variable {prog : Program} {w : World} {mean : ExcName → Option Value} {mg mb : Str → Option Value}
/-- an element as the law builds it; the number tells how many elements without a length may stand one in another -/
inductive Elem : Nat → List Int → Prop
  | prim {f lb c : List Int} {me : Int} {d : Nat} : GoodFirst me f → GoodLen (c.length : Int) lb → c.length ≤ 600 → BytesL c → Elem d (f ++ lb ++ c)
  | indef0 {f : List Int} {d : Nat} : GoodFirst 1 f → Elem d (f ++ [128] ++ [0, 0])
  | indef {f : List Int} {cs : List (List Int)} {d : Nat} : GoodFirst 1 f → (∀ c ∈ cs, Elem d c) → Elem (d + 1) (f ++ [128] ++ cs.flatten ++ [0, 0])
theorem Elem.mono {d : Nat} {bs : List Int} (h : Elem d bs) : ∀ {d' : Nat}, d ≤ d' → Elem d' bs := by
  induction h with
  | prim h1 h2 h3 h4 => intro d' _; exact .prim h1 h2 h3 h4
  | indef0 h1 => intro d' _; exact .indef0 h1
  | indef h1 h2 ih =>
    intro d' hd
    obtain ⟨e, rfl⟩ : ∃ e, d' = e + 1 := ⟨d' - 1, by omega⟩
    exact .indef h1 fun c hc => ih c hc (by omega)
def Elems (d : Nat) (bs : List Int) : Prop := ∃ cs : List (List Int), bs = cs.flatten ∧ ∀ c ∈ cs, Elem d c
theorem Elems.snoc {d : Nat} {a b : List Int} (h : Elems d a) (k : Elem d b) : Elems d (a ++ b) := by
  obtain ⟨cs, rfl, h⟩ := h
  refine ⟨cs ++ [b], by simp, fun c hc => ?_⟩
  rcases List.mem_append.mp hc with hc | hc
  · exact h c hc
  · rw [List.mem_singleton.mp hc]; exact k
theorem Elems.nil {d : Nat} : Elems d [] := ⟨[], rfl, fun _ h => nomatch h⟩
theorem goodLen_len {n : Int} {lb : List Int} (h : GoodLen n lb) : 1 ≤ lb.length ∧ lb.length ≤ 4 := by
  rcases h with ⟨rfl, _⟩ | ⟨rfl, _⟩ | rfl | rfl <;> simp
theorem elem_prim_fact {fl fl' : Bool} {me : Int} {f lb c bs : List Int} {d sz S : Nat} (hg : GoodLen (c.length : Int) lb) (he : bs = f ++ lb ++ c) (hl1 : 1 ≤ f.length) (hl2 : f.length ≤ 3) (hc : c.length ≤ S) (hS : S + 7 ≤ sz) (hS2 : S ≤ 600) (hB : BytesL c)
    (hz : fl' = true → fl = true ∧ GoodFirst me f) : 2 ≤ bs.length ∧ bs.length ≤ sz ∧ (fl' = true → fl = true ∧ Elem d bs) := by
  have := goodLen_len hg
  subst he
  refine ⟨by simp; omega, by simp; omega, fun h => ⟨(hz h).1, .prim (hz h).2 hg (by omega) hB⟩⟩
def growSize : Nat → Nat
  | 0 => 12
  | k + 1 => 3 * growSize k + 7
/-- the contract of _law_grow -/
def GrowC (prog : Program) (w : World) (mean : ExcName → Option Value) (mg mb : Str → Option Value) (k : Nat) : Prop :=
  ∀ (st ls : Addr) (o1 o2 : Obj) (tk : Tok) (fl : Bool) (j : Int), @Ne Nat st ls → StB ls fl o1 o2 → j = (k : Int) →
   HC prog w mean mg mb (4 + k) 71 [.ref st, .int j tk] [(st, o1), (ls, o2)] (PostL st ls [] fun fl' bs => 2 ≤ bs.length ∧ bs.length ≤ growSize k ∧ (fl' = true → fl = true ∧ Elem k bs)) False

theorem mfmod2 {x : Int} : x.fmod 2 ≤ 1 := Int.le_of_lt_add_one (mfmod_lt (k := 2) (by decide))
theorem use_list0 {n : Nat} {f : Addr} {args : List Value} {st ls : Addr} {o1 o2 : Obj} {Z : Bool → List Int → Prop} (c : HC prog w mean mg mb n f args [(st, o1), (ls, o2)] (PostL st ls [] Z) False)
    {dp un : Nat} {gd : Option (List Code)} {base g : Heap} {envs : List Env} {s : Shared} {Q E : Value → Shared → Prop} {L : Addr} {m : Str → Option Value} {cn : Str} {cs : Scope} {a : Addr} {ccd : Value} {news r1 rest : List (Addr × Obj)}
    (C : At w mean mg mb (ktA dp un gd envs) base g envs) (F : Fr g L s.heap m) (N : News g L s.heap news) (hk : cs.kind = .function)
    (p1 : Pick st o1 news r1) (p2 : Pick ls o2 r1 rest) (hd' : dp + 1 + n < recursionLimit) (hu : un + 3 + 8 * n + 200 < cLine)
    (ret : ∀ a o1' o2' n bs vs fl' h' tk', StB ls fl' o1' o2' → @Ne Nat a st → @Ne Nat a ls → NeAll a rest → IntsAre vs bs → BytesL bs → Z fl' bs → Fr g L h' m → News g L h' ((st, o1') :: (ls, o2') :: (a, lsO vs n) :: rest) → Q (.ref a) { s with heap := h', toks := tk' }) :
    wpAny (model prog w) ((ktA dp un gd envs).deeper (envOf cn cs L a ccd)) (call (.ref f) args) Q E s :=
  use_list c C F N hk p1 p2 (fun _ h => nomatch h) (fun _ h => h) (fun _ _ _ h => nomatch h) hd' hu fun a o1' o2' n bs vs fl' h' tk' h1 h2 h3 _ => ret a o1' o2' n bs vs fl' h' tk' h1 h2 h3
theorem use_sized {st ls fa ba : Addr} {o1 o2 : Obj} {fl : Bool} {vf vb : List Value} {bf bb : List Int} {nf nb : Nat}
    {dp un : Nat} {gd : Option (List Code)} {base g : Heap} {envs : List Env} {s : Shared} {Q E : Value → Shared → Prop} {L : Addr} {m : Str → Option Value} {cn : Str} {cs : Scope} {a : Addr} {ccd : Value} {news r1 r2 r3 rest : List (Addr × Obj)}
    (hS : StB ls fl o1 o2) (C : At w mean mg mb (ktA dp un gd envs) base g envs) (F : Fr g L s.heap m) (N : News g L s.heap news) (hk : cs.kind = .function)
    (p1 : Pick st o1 news r1) (p2 : Pick ls o2 r1 r2) (p3 : Pick fa (lsO vf nf) r2 r3) (p4 : Pick ba (lsO vb nb) r3 rest)
    (hsl : @Ne Nat st ls) (hfs : @Ne Nat fa st) (hfl : @Ne Nat fa ls) (hbs : @Ne Nat ba st) (hbl : @Ne Nat ba ls) (hVf : IntsAre vf bf) (hVb : IntsAre vb bb) (hBf : BytesL bf) (hBb : BytesL bb) (hlf : bf.length ≤ 3) (hlb : bb.length ≤ 600)
    (hd' : dp + 4 < recursionLimit) (hu : un + 227 < cLine)
    (ret : ∀ a o1' o2' n bs vs h' tk' lb, StB ls fl o1' o2' → @Ne Nat a st → @Ne Nat a ls → NeAll a rest → IntsAre vs bs → BytesL bs → GoodLen (bb.length : Int) lb → bs = bf ++ lb ++ bb → Fr g L h' m → News g L h' ((st, o1') :: (ls, o2') :: (a, lsO vs n) :: rest) → Q (.ref a) { s with heap := h', toks := tk' }) :
    wpAny (model prog w) ((ktA dp un gd envs).deeper (envOf cn cs L a ccd)) (call (.ref 64) [.ref st, .ref fa, .ref ba]) Q E s := by
  obtain ⟨a1, a2, a3⟩ := p1.mem
  obtain ⟨b1, b2, b3⟩ := p2.mem
  obtain ⟨c1, c2, c3⟩ := p3.mem
  obtain ⟨d1, d2, d3⟩ := p4.mem
  refine use_list (sized_spec (nf := nf) (nb := nb) hsl hfs hfl hbs hbl hS hVf hVb hBf hBb hlf hlb) C F N hk p1 p2 (fun p hp => ?_) (rest := rest) (fun p hp => c2 p (d2 p hp)) (fun p hp q hq => ?_) hd' hu
    fun a o1' o2' n bs vs fl' h' tk' h1 h2 h3 _ h5 h6 h7 h8 F' N' => ?_
  · rcases List.mem_cons.mp hp with rfl | hp
    · exact a2 _ (b2 _ c1)
    · rw [List.mem_singleton.mp hp]; exact a2 _ (b2 _ (c2 _ d1))
  · rcases List.mem_cons.mp hq with rfl | hq
    · exact c3 p (d2 p hp)
    · rw [List.mem_singleton.mp hq]; exact d3 p hp
  · obtain ⟨rfl, lb, h9, h10⟩ := h8
    exact ret a o1' o2' n bs vs h' tk' lb h1 h2 h3 h5 h6 h7 h9 h10 F' N'
end
--MACRO
local macro_rules | `(tactic| walk_at "m_some") => `(tactic| (
  (with_reducible show wpAny _ _ (call (Value.ref 50) _) _ _ _);
  (with_reducible rename StB _ _ _ _ => hSt');
  k_dflt (refine' use_list0 (some_spec ?hsl hSt' ?k1 ?k2) ?C ?F ?N ?hk ?p1 ?p2 ?hd ?hu ?_; (case C => k_asm); (case F => k_asm); (case N => k_asm); (case hk => rfl); (case p1 => walk_at "m_pick"); (case p2 => walk_at "m_pick"); (case hsl => omega); (case k1 => omega); (case k2 => omega); (case hd => omega); (case hu => omega));
  clear hSt';
  intro a' o1' o2' n' bs' vs' fl' h' tk' hSt' ha1' ha2' ha3' hI' hB' hZ' F' N';
  (simp only [NeAll, and_true] at ha3'); (obtain ⟨hfl', hZ'⟩ := hZ'); (subst hfl');
  (try dsimp only); (try k_fold); (try k_sweep)))
local macro_rules | `(tactic| walk_at "m_first") => `(tactic| (
  (with_reducible show wpAny _ _ (call (Value.ref 57) _) _ _ _);
  (with_reducible rename StB _ _ _ _ => hSt');
  k_dflt (refine' use_list0 (first_spec ?hsl hSt' ?k1 ?k2) ?C ?F ?N ?hk ?p1 ?p2 ?hd ?hu ?_; (case C => k_asm); (case F => k_asm); (case N => k_asm); (case hk => rfl); (case p1 => walk_at "m_pick"); (case p2 => walk_at "m_pick"); (case hsl => omega); (case k1 => first | omega | exact mfmod_lo (by decide)); (case k2 => first | omega | exact mfmod2); (case hd => omega); (case hu => omega));
  clear hSt';
  intro a' o1' o2' n' bs' vs' fl' h' tk' hSt' ha1' ha2' ha3' hI' hB' hZ' F' N';
  (simp only [NeAll, and_true] at ha3'); (obtain ⟨hl1', hl2', hZ'⟩ := hZ');
  (try dsimp only); (try k_fold); (try k_sweep)))
local macro_rules | `(tactic| walk_at "m_sized") => `(tactic| (
  (with_reducible show wpAny _ _ (call (Value.ref 64) _) _ _ _);
  (with_reducible rename StB _ _ _ _ => hSt');
  k_dflt (refine' use_sized hSt' ?C ?F ?N ?hk ?p1 ?p2 ?p3 ?p4 ?n1 ?n2 ?n3 ?n4 ?n5 ?v1 ?v2 ?b1 ?b2 ?l1 ?l2 ?hd ?hu ?_; (case C => k_asm); (case F => k_asm); (case N => k_asm); (case hk => rfl); (case p1 => walk_at "m_pick"); (case p2 => walk_at "m_pick"); (case p3 => walk_at "m_pick"); (case p4 => walk_at "m_pick"); (case n1 => omega); (case n2 => omega); (case n3 => omega); (case n4 => omega); (case n5 => omega); (case v1 => k_asm); (case v2 => k_asm); (case b1 => k_asm); (case b2 => k_asm); (case l1 => omega); (case l2 => omega); (case hd => omega); (case hu => omega));
  clear hSt';
  intro a' o1' o2' n' bs' vs' h' tk' lb' hSt' ha1' ha2' ha3' hI' hB' hg' he' F' N';
  (simp only [NeAll, and_true] at ha3');
  (try dsimp only); (try k_fold); (try k_sweep)))
local macro_rules | `(tactic| walk_at "m_grow") => `(tactic| (
  (with_reducible show wpAny _ _ (call (Value.ref 71) _) _ _ _);
  (with_reducible rename StB _ _ _ _ => hSt');
  (with_reducible rename GrowC _ _ _ _ _ _ => IH');
  k_dflt (refine' use_list0 (IH' _ _ _ _ _ _ _ ?hsl hSt' ?k1) ?C ?F ?N ?hk ?p1 ?p2 ?hd ?hu ?_; (case C => k_asm); (case F => k_asm); (case N => k_asm); (case hk => rfl); (case p1 => walk_at "m_pick"); (case p2 => walk_at "m_pick"); (case hsl => omega); (case k1 => omega); (case hd => omega); (case hu => omega));
  clear hSt';
  intro a' o1' o2' n' bs' vs' fl' h' tk' hSt' ha1' ha2' ha3' hI' hB' hZ' F' N';
  (simp only [NeAll, and_true] at ha3'); (obtain ⟨hl1', hl2', hZ'⟩ := hZ');
  (try dsimp only); (try k_fold); (try k_sweep)))
local macro_rules | `(tactic| walk_at "call ref") => `(tactic| first | walk_at "m_take" | walk_at "m_some" | walk_at "m_first" | walk_at "m_sized" | walk_at "m_grow")
--END
section
variable {prog : Program} {w : World} {mean : ExcName → Option Value} {mg mb : Str → Option Value}
set_option maxHeartbeats 8000000 in
theorem grow0 : GrowC prog w mean mg mb 0 := by
  intro st ls o1 o2 tk fl j hsl hS hj
  subst hj
  intro dp un gd base envs s Q E C O hd hu ret rz
  refine hc_enter C O (by omega) (by k_dflt k_is) (by k_dflt k_is) (fun _ _ => BindsTo.of_eq rfl) (locs rfl) rfl rfl rfl (by decide) ?_
  intro g L h₁ F N B X T KG GS
  have C' : At w mean mg mb (ktA dp un gd envs) base g envs := ⟨B, C.X, C.T⟩
  dsimp only
  k_steps
  all_goals (try dsimp only)
  rename News _ _ _ _ => N9'
  refine fin_list ret KG (by k_asm) (by k_asm) N9' (by walk_at "m_sub") (by omega) (by omega) trivial (by k_asm) (by k_asm) (elem_prim_fact (S := 5) (by assumption) (by assumption) (by assumption) (by assumption) (by omega) (by decide) (by decide) (by k_asm) (by assumption))

structure GSt where
  b : Nat
  o1 : Obj
  o2 : Obj
  n : Nat
  vs : List Value
  bs : List Int
  fl : Bool
theorem elems_fact {fl fl1 fl2 : Bool} {k : Nat} {a b : List Int} (h1 : fl1 = true → fl = true ∧ Elems k a) (h2 : fl2 = true → fl1 = true ∧ Elem k b) : fl2 = true → fl = true ∧ Elems k (a ++ b) :=
  fun h => ⟨(h1 (h2 h).1).1, (h1 (h2 h).1).2.snoc (h2 h).2⟩
theorem elem_indef_fact {fl flc fl' : Bool} {k : Nat} {f bs : List Int} (hl1 : 1 ≤ f.length) (hl2 : f.length ≤ 3) (hb : bs.length ≤ 3 * growSize k) (hE : flc = true → fl = true ∧ Elems k bs) (hZ : fl' = true → flc = true ∧ GoodFirst 1 f) :
    2 ≤ (f ++ [128] ++ bs ++ [0, 0]).length ∧ (f ++ [128] ++ bs ++ [0, 0]).length ≤ growSize (k + 1) ∧ (fl' = true → fl = true ∧ Elem (k + 1) (f ++ [128] ++ bs ++ [0, 0])) := by
  have : growSize (k + 1) = 3 * growSize k + 7 := rfl
  refine ⟨by simp; omega, by simp; omega, fun h => ⟨(hE (hZ h).1).1, ?_⟩⟩
  obtain ⟨cs, rfl, hc⟩ := (hE (hZ h).1).2
  exact .indef (hZ h).2 hc
theorem prim_flag {fl flc fl' : Bool} {k : Nat} {f bs : List Int} (hE : flc = true → fl = true ∧ Elems k bs) (hZ : fl' = true → flc = true ∧ GoodFirst 1 f) : fl' = true → fl = true ∧ GoodFirst 1 f :=
  fun h => ⟨(hE (hZ h).1).1, (hZ h).2⟩
set_option maxHeartbeats 8000000 in
theorem growS (k : Nat) (hk : k ≤ 1) (IH : GrowC prog w mean mg mb k) : GrowC prog w mean mg mb (k + 1) := by
  intro st ls o1 o2 tk fl j hsl hS hj
  intro dp un gd base envs s Q E C O hd hu ret rz
  refine hc_enter C O (by omega) (by k_dflt k_is) (by k_dflt k_is) (fun _ _ => BindsTo.of_eq rfl) (locs rfl) rfl rfl rfl (by decide) ?_
  intro g L h₁ F N B X T KG GS
  have C' : At w mean mg mb (ktA dp un gd envs) base g envs := ⟨B, C.X, C.T⟩
  dsimp only
  have hj0 : j ≠ 0 := by omega
  have hgs : growSize k ≤ 43 := by
    rcases Nat.le_one_iff_eq_zero_or_eq_one.mp hk with rfl | rfl <;> decide
  have hgk : growSize (k + 1) = 3 * growSize k + 7 := rfl
  have hg0 : 12 ≤ growSize k := by
    rcases Nat.le_one_iff_eq_zero_or_eq_one.mp hk with rfl | rfl <;> decide
  k_steps
  all_goals (try dsimp only)
  · rename News _ _ _ _ => N9'
    exact fin_list ret KG (by k_asm) (by k_asm) N9' (by walk_at "m_sub") (by omega) (by omega) trivial (by k_asm) (by k_asm) (elem_prim_fact (S := 5) (by assumption) (by assumption) (by assumption) (by assumption) (by omega) (by omega) (by decide) (by k_asm) (by assumption))
  · rename News _ _ _ _ => N9'
    exact fin_list ret KG (by k_asm) (by k_asm) N9' (by walk_at "m_sub") (by omega) (by omega) trivial (by k_asm) (by k_asm) (elem_prim_fact (S := 5) (by assumption) (by assumption) (by assumption) (by assumption) (by omega) (by omega) (by decide) (by k_asm) (by assumption))
  rename_i l' _ l1 _ i' _ o1a o2a _ _ hi1 hi2 hSt F1 N1 _ _ _ _ _ hR F2 N2 _
  show wpAny _ _ _ _ _ _
  refine for_range (σ := GSt) (fun c => [(c.b, lsO c.vs c.n), (st, c.o1), (ls, c.o2)]) (fun c => [(Str.ofString "body", .ref c.b)]) [] (fun i c => StB ls c.fl c.o1 c.o2 ∧ @Ne Nat c.b st ∧ @Ne Nat c.b ls ∧ IntsAre c.vs c.bs ∧ BytesL c.bs ∧ c.bs.length ≤ i * growSize k ∧ (c.fl = true → fl = true ∧ Elems k c.bs)) ⟨l', o1a, o2a, 0, [], [], fl⟩ rfl hR
    (small_one (by omega) (by omega) (by omega) (by omega)) (rangeSize_nat _ _) F2 (news_sub N2 (by walk_at "m_sub")) (by walk_at "m_all") ⟨hSt, by dsimp only; omega, by dsimp only; omega, .nil, .nil, by simp, fun h => ⟨h, .nil⟩⟩ ?_ ?_
  · clear N1 N2 F2 hR hSt F1
    rintro i t ⟨b, o1', o2', nn, vs, bs, flc⟩ u h tk' I oI hi ⟨hS, hb1, hb2, hV, hB, hl, hE⟩ hne F N
    dsimp only at hS hb1 hb2 hV hB hl hE hne F N ⊢
    simp only [NeAll, and_true] at hne
    have hl2 : bs.length ≤ 3 * growSize k := Nat.le_trans hl (Nat.mul_le_mul_right _ (by omega))
    k_steps
    dsimp only [ForPost]
    rename News _ _ _ _ => N9'
    rename IntsAre _ _ => hI9'
    refine for_end ⟨_, _, _, _, _, _, _⟩ (by k_asm) N9' (by k_mem) (by walk_at "m_sub") (by walk_at "m_ne") (by walk_at "m_all") (by walk_at "m_same") ⟨by assumption, ?_, ?_, hI9', hB.append (by assumption), ?_, elems_fact hE (by assumption)⟩
    · dsimp only; omega
    · dsimp only; omega
    · dsimp only; rw [List.length_append, Nat.succ_mul]; omega
  · clear N1 N2 F2 hR hSt F1
    rintro ⟨b, o1', o2', nn, vs, bs, flc⟩ u h tk' ⟨hS, hb1, hb2, hV, hB, hl, hE⟩ F N
    dsimp only at hS hb1 hb2 hV hB hl hE F N ⊢
    have hl2 : bs.length ≤ 3 * growSize k := Nat.le_trans hl (Nat.mul_le_mul_right _ (by omega))
    k_steps
    all_goals (try dsimp only)
    · rename News _ _ _ _ => N9'
      exact fin_list ret KG (by k_asm) (by k_asm) N9' (by walk_at "m_sub") (by omega) (by omega) trivial (by k_asm) (by k_asm) (elem_prim_fact (S := 3 * growSize k) (by assumption) (by assumption) (by assumption) (by assumption) (by omega) (by omega) (by omega) hB (prim_flag hE (by assumption)))
    · rename News _ _ _ _ => N9'
      rename IntsAre _ _ => hI9'
      exact fin_list ret KG (by k_asm) (by k_asm) N9' (by walk_at "m_sub") (by omega) (by omega) trivial hI9' ((((by assumption : BytesL _).append (.cons (by decide) (by decide) .nil)).append hB).append (.cons (by decide) (by decide) (.cons (by decide) (by decide) .nil))) (elem_indef_fact (by assumption) (by assumption) hl2 hE (by assumption))
theorem grow_spec (k : Nat) (hk : k ≤ 2) : GrowC prog w mean mg mb k := by
  rcases k with _ | _ | _ | k
  · exact grow0
  · exact growS 0 (by omega) grow0
  · exact growS 1 (by omega) (growS 0 (by omega) grow0)
  · omega
end

section
variable {prog : Program} {w : World} {mean : ExcName → Option Value} {mg mb : Str → Option Value}
theorem good36 : GoodFirst 1 [36] := .inl ⟨36, rfl, by decide, by decide, by decide, by decide, by decide⟩
theorem good4 : GoodFirst 0 [4] := .inl ⟨4, rfl, by decide, by decide, by decide, by decide, by decide⟩
theorem chain_wrap {d : Nat} {x : List Int} (h : Elem d x) : ∀ M : Nat, Elem (d + M) ((List.replicate M [(36 : Int), 128]).flatten ++ x ++ (List.replicate M [(0 : Int), 0]).flatten)
  | 0 => by simpa using h
  | M + 1 => by
    have e : (List.replicate (M + 1) [(36 : Int), 128]).flatten ++ x ++ (List.replicate (M + 1) [(0 : Int), 0]).flatten = [36] ++ [128] ++ [((List.replicate M [(36 : Int), 128]).flatten ++ x ++ (List.replicate M [(0 : Int), 0]).flatten)].flatten ++ [0, 0] := by
      rw [List.replicate_succ, List.replicate_succ' (n := M) (a := [(0 : Int), 0])]
      simp
    rw [e]
    exact .indef good36 fun c hc => by rw [List.mem_singleton.mp hc]; exact chain_wrap h M
theorem chain_elem0 {M : Nat} (h1 : 1 ≤ M) (h2 : M ≤ 11) : Elem 10 ((List.replicate M [(36 : Int), 128]).flatten ++ [] ++ (List.replicate M [(0 : Int), 0]).flatten) := by
  obtain ⟨K, rfl⟩ : ∃ K, M = K + 1 := ⟨M - 1, by omega⟩
  have e : (List.replicate (K + 1) [(36 : Int), 128]).flatten ++ [] ++ (List.replicate (K + 1) [(0 : Int), 0]).flatten = (List.replicate K [(36 : Int), 128]).flatten ++ ([36] ++ [128] ++ [0, 0]) ++ (List.replicate K [(0 : Int), 0]).flatten := by
    rw [List.replicate_succ (n := K) (a := [(0 : Int), 0]), List.replicate_succ']
    simp
  rw [e]
  exact (chain_wrap (d := 0) (.indef0 good36) K).mono (by omega)
theorem chain_elem1 {M : Nat} (h2 : M ≤ 10) : Elem 10 ((List.replicate M [(36 : Int), 128]).flatten ++ [4, 1, 97] ++ (List.replicate M [(0 : Int), 0]).flatten) :=
  (chain_wrap (d := 0) (x := [4] ++ [1] ++ [97]) (.prim good4 (.inl ⟨rfl, by decide⟩) (by decide) (.cons (by decide) (by decide) .nil)) M).mono (by omega)
theorem bytesL_rep {b : List Int} (h : BytesL b) (n : Nat) : BytesL (List.replicate n b).flatten := fun x hx => by
  obtain ⟨l, hl, hx⟩ := List.mem_flatten.mp hx
  rw [(List.mem_replicate.mp hl).2] at hx
  exact h x hx
theorem chain_fact {M : Nat} {x : List Int} (h1 : 1 ≤ M) (h2 : M ≤ 12) (hx : x.length ≤ 3) : 2 ≤ ((List.replicate M [(36 : Int), 128]).flatten ++ x ++ (List.replicate M [(0 : Int), 0]).flatten).length ∧ ((List.replicate M [(36 : Int), 128]).flatten ++ x ++ (List.replicate M [(0 : Int), 0]).flatten).length ≤ 60 := by
  simp; omega
theorem chain_bytes {M : Nat} {x : List Int} (h : BytesL x) : BytesL ((List.replicate M [(36 : Int), 128]).flatten ++ x ++ (List.replicate M [(0 : Int), 0]).flatten) :=
  ((bytesL_rep (.cons (by decide) (by decide) (.cons (by decide) (by decide) .nil)) M).append h).append (bytesL_rep (.cons (by decide) (by decide) (.cons (by decide) (by decide) .nil)) M)
set_option maxHeartbeats 8000000 in
theorem chain_spec {st ls : Addr} {o1 o2 : Obj} {fl : Bool} (hsl : @Ne Nat st ls) (hS : StB ls fl o1 o2) :
   HC prog w mean mg mb 3 78 [.ref st] [(st, o1), (ls, o2)] (PostL st ls [] fun fl' bs => 2 ≤ bs.length ∧ bs.length ≤ 60 ∧ (fl' = true → fl = true ∧ Elem 10 bs)) False := by
  intro dp un gd base envs s Q E C O hd hu ret rz
  refine hc_enter C O (by omega) (by k_dflt k_is) (by k_dflt k_is) (fun _ _ => BindsTo.of_eq rfl) (locs rfl) rfl rfl rfl (by decide) ?_
  intro g L h₁ F N B X T KG GS
  have C' : At w mean mg mb (ktA dp un gd envs) base g envs := ⟨B, C.X, C.T⟩
  dsimp only
  have f0 : Int.fdiv 0 3 = 0 := by decide
  have f3 : Int.fdiv 3 3 = 1 := by decide
  k_steps
  all_goals (try dsimp only)
  all_goals
    rename News _ _ _ _ => N9'
    rename IntsAre _ _ => hI9'
  · exact fin_list ret KG (by k_asm) (by k_asm) N9' (by walk_at "m_sub") (by omega) (by omega) trivial hI9' (chain_bytes .nil) ⟨(chain_fact (by omega) (by omega) (by decide)).1, (chain_fact (by omega) (by omega) (by decide)).2, by exact fun h => nomatch h⟩
  · exact fin_list ret KG (by k_asm) (by k_asm) N9' (by walk_at "m_sub") (by omega) (by omega) trivial hI9' (chain_bytes .nil) ⟨(chain_fact (by omega) (by omega) (by decide)).1, (chain_fact (by omega) (by omega) (by decide)).2, fun h => ⟨h, chain_elem0 (by omega) (by omega)⟩⟩
  · exact fin_list ret KG (by k_asm) (by k_asm) N9' (by walk_at "m_sub") (by omega) (by omega) trivial hI9' (chain_bytes (.cons (by decide) (by decide) (.cons (by decide) (by decide) (.cons (by decide) (by decide) .nil)))) ⟨(chain_fact (by omega) (by omega) (by decide)).1, (chain_fact (by omega) (by omega) (by decide)).2, by exact fun h => nomatch h⟩
  · exact fin_list ret KG (by k_asm) (by k_asm) N9' (by walk_at "m_sub") (by omega) (by omega) trivial hI9' (chain_bytes (.cons (by decide) (by decide) (.cons (by decide) (by decide) (.cons (by decide) (by decide) .nil)))) ⟨(chain_fact (by omega) (by omega) (by decide)).1, (chain_fact (by omega) (by omega) (by decide)).2, fun h => ⟨h, chain_elem1 (by omega)⟩⟩
end

/-! the law's reader as a plain function -/
abbrev gi (bs : List Int) (i : Int) : Int := bs.getD i.toNat 0
def rdTag : List Int → Option (List Int)
  | [] => none
  | x :: r => if x < 128 then some [x] else (rdTag r).map (x :: ·)
def foldT (ds : List Int) : Int := ds.foldl (fun t d => 128 * t + d.fmod 128) 0
def foldS (ds : List Int) : Int := ds.foldl (fun t d => 256 * t + d) 0
def reg (bs : List Int) (W a : Int) : List Int := (bs.take W.toNat).drop a.toNat
def rdT (bs : List Int) (W at' : Int) : Option (Int × Int) :=
  if (gi bs at').fmod 32 = 31 then
    match rdTag (reg bs W (at' + 1)) with
    | none => none
    | some ds => if ds.headD 0 = 128 ∨ foldT ds < 31 then none else some (foldT ds, at' + 1 + (ds.length : Int))
  else some ((gi bs at').fmod 32, at' + 1)
def rdEnd (bs : List Int) (W : Int) (ch : Int → Option Int) : Nat → Int → Option Int
  | 0, _ => none
  | F + 1, x => if x + 2 ≤ W ∧ gi bs x = 0 ∧ gi bs (x + 1) = 0 then some x else
      match ch x with
      | none => none
      | some y => rdEnd bs W ch F y
structure Rd where
  c : Int
  m : Int
  t : Int
  c0 : Int
  c1 : Int
  e : Int
def rdL (bs : List Int) (W : Int) (ch : Int → Option Int) (first tag a1 : Int) : Option Rd :=
  if W ≤ a1 then none
  else if gi bs a1 = 128 then
    if (first.fdiv 32).fmod 2 = 0 then none
    else match rdEnd bs W ch (W.toNat + 1) (a1 + 1) with
      | none => none
      | some x => some ⟨first.fdiv 64, (first.fdiv 32).fmod 2, tag, a1 + 1, x, x + 2⟩
  else if 128 < gi bs a1 then
    if W < a1 + 1 + (gi bs a1 - 128) then none
    else if W < a1 + 1 + (gi bs a1 - 128) + foldS ((bs.drop (a1 + 1).toNat).take (gi bs a1 - 128).toNat) then none
    else some ⟨first.fdiv 64, (first.fdiv 32).fmod 2, tag, a1 + 1 + (gi bs a1 - 128), a1 + 1 + (gi bs a1 - 128) + foldS ((bs.drop (a1 + 1).toNat).take (gi bs a1 - 128).toNat), a1 + 1 + (gi bs a1 - 128) + foldS ((bs.drop (a1 + 1).toNat).take (gi bs a1 - 128).toNat)⟩
  else if W < a1 + 1 + gi bs a1 then none
  else some ⟨first.fdiv 64, (first.fdiv 32).fmod 2, tag, a1 + 1, a1 + 1 + gi bs a1, a1 + 1 + gi bs a1⟩
def rd (bs : List Int) (W : Int) : Nat → Int → Option Rd
  | 0, _ => none
  | k + 1, x => if W ≤ x then none else
      match rdT bs W x with
      | none => none
      | some (tag, a1) => rdL bs W (fun y => (rd bs W k y).map (·.e)) (gi bs x) tag a1

theorem gi_bytes {bs : List Int} (h : BytesL bs) (i : Int) : 0 ≤ gi bs i ∧ gi bs i < 256 :=
  ⟨getD_all (P := fun x => 0 ≤ x) (fun x hx => (h x hx).1) (by decide) _, getD_all (P := fun x => x < 256) (fun x hx => (h x hx).2) (by decide) _⟩
theorem foldS_nonneg {ds : List Int} (h : BytesL ds) : 0 ≤ foldS ds := by
  unfold foldS
  suffices H : ∀ (l : List Int) (t : Int), BytesL l → 0 ≤ t → 0 ≤ l.foldl (fun t d => 256 * t + d) t from H ds 0 h (by decide)
  intro l
  induction l with
  | nil => intro t _ h; exact h
  | cons x r ih => intro t hl ht; exact ih _ (fun y hy => hl y (.tail _ hy)) (by have := (hl x (.head _)).1; show 0 ≤ 256 * t + x; omega)
theorem foldT_nonneg (ds : List Int) : 0 ≤ foldT ds := by
  unfold foldT
  suffices H : ∀ (l : List Int) (t : Int), 0 ≤ t → 0 ≤ l.foldl (fun t d => 128 * t + d.fmod 128) t from H ds 0 (by decide)
  intro l
  induction l with
  | nil => intro t h; exact h
  | cons x r ih => intro t ht; exact ih _ (by have := mfmod_lo (x := x) (k := 128) (by decide); show 0 ≤ 128 * t + x.fmod 128; omega)
theorem foldT_snoc (ds : List Int) (d : Int) : foldT (ds ++ [d]) = 128 * foldT ds + d.fmod 128 := by
  unfold foldT; rw [List.foldl_append]; rfl
theorem foldS_snoc (ds : List Int) (d : Int) : foldS (ds ++ [d]) = 256 * foldS ds + d := by
  unfold foldS; rw [List.foldl_append]; rfl
theorem rdTag_spec : ∀ {l ds : List Int}, rdTag l = some ds → ∃ r, l = ds ++ r ∧ ds ≠ []
  | [], ds, h => by cases h
  | x :: l, ds, h => by
    unfold rdTag at h
    split at h
    · cases h; exact ⟨l, rfl, by simp⟩
    · cases e : rdTag l with
      | none => rw [e] at h; cases h
      | some ds' =>
        rw [e] at h
        cases h
        obtain ⟨r, h1, h2⟩ := rdTag_spec e
        exact ⟨r, by rw [h1]; rfl, by simp⟩
theorem reg_length {bs : List Int} {W a : Int} (hW : W ≤ bs.length) (h0 : 0 ≤ a) (ha : a ≤ W) : ((reg bs W a).length : Int) = W - a := by
  unfold reg
  rw [List.length_drop, List.length_take]
  omega
theorem reg_cons {bs : List Int} {W a : Int} (hW : W ≤ bs.length) (h0 : 0 ≤ a) (ha : a < W) : reg bs W a = gi bs a :: reg bs W (a + 1) := by
  unfold reg gi
  have e : (a + 1).toNat = a.toNat + 1 := by omega
  rw [e]
  have hl : a.toNat < (bs.take W.toNat).length := by rw [List.length_take]; omega
  rw [List.drop_eq_getElem_cons hl]
  congr 1
  rw [List.getElem_take, List.getD_eq_getElem?_getD, List.getElem?_eq_getElem (by rw [List.length_take] at hl; omega)]
  rfl
theorem reg_nil {bs : List Int} {W a : Int} (h0 : 0 ≤ W) (ha : W ≤ a) : reg bs W a = [] := by
  unfold reg
  apply List.drop_eq_nil_of_le
  rw [List.length_take]; omega
theorem rdT_bounds {bs : List Int} {W x tag a1 : Int} (hW : W ≤ bs.length) (h0 : 0 ≤ x) (hx : x < W) (h : rdT bs W x = some (tag, a1)) : x < a1 ∧ a1 ≤ W := by
  unfold rdT at h
  split at h
  · split at h
    · cases h
    · rename_i ds e
      split at h
      · cases h
      · cases h
        obtain ⟨r, h1, h2⟩ := rdTag_spec e
        have h3 := reg_length (bs := bs) hW (a := x + 1) (by omega) (by omega)
        rw [h1, List.length_append] at h3
        omega
  · cases h; omega
theorem rdEnd_bounds {bs : List Int} {W : Int} {ch : Int → Option Int} (hch : ∀ x y, 0 ≤ x → ch x = some y → x + 2 ≤ y ∧ y ≤ W) : ∀ {F : Nat} {x y : Int}, 0 ≤ x → rdEnd bs W ch F x = some y → x ≤ y ∧ y + 2 ≤ W
  | 0, x, y, _, h => by cases h
  | F + 1, x, y, h0, h => by
    unfold rdEnd at h
    split at h
    · rename_i q; cases h; omega
    · split at h
      · cases h
      · rename_i z e
        have := hch x z h0 e
        have := rdEnd_bounds hch (by omega) h
        omega
theorem rd_bounds {bs : List Int} (hB : BytesL bs) {W : Int} (hW : W ≤ bs.length) : ∀ {k : Nat} {x : Int} {d : Rd}, 0 ≤ x → rd bs W k x = some d → x + 2 ≤ d.c0 ∧ d.c0 ≤ d.c1 ∧ d.c1 ≤ d.e ∧ d.e ≤ W
  | 0, x, d, _, h => by cases h
  | k + 1, x, d, h0, h => by
    unfold rd at h
    split at h
    · cases h
    · split at h
      · cases h
      · rename_i tag a1 hT
        have hb := rdT_bounds hW h0 (by omega) hT
        have g := gi_bytes hB a1
        unfold rdL at h
        split at h
        · cases h
        · split at h
          · split at h
            · cases h
            · split at h
              · cases h
              · rename_i y e
                cases h
                have := rdEnd_bounds (fun x y hx hy => by
                  cases e2 : rd bs W k x with
                  | none => rw [e2] at hy; cases hy
                  | some d2 =>
                    rw [e2] at hy
                    cases hy
                    have := rd_bounds hB hW hx e2
                    show x + 2 ≤ d2.e ∧ d2.e ≤ W
                    omega) (by omega) e
                dsimp only
                omega
          · split at h
            · split at h
              · cases h
              · split at h
                · cases h
                · rename_i q1 q2
                  cases h
                  have := foldS_nonneg (ds := (bs.drop (a1 + 1).toNat).take (gi bs a1 - 128).toNat) (fun y hy => hB y (List.mem_of_mem_drop (List.mem_of_mem_take hy)))
                  revert this q2
                  generalize foldS _ = z
                  intro q2 this
                  dsimp only
                  omega
            · split at h
              · cases h
              · cases h
                dsimp only
                omega

section
variable {bs : List Int} {W x tag a1 first : Int} {k : Nat} {ch : Int → Option Int}
theorem rd_a (h : W ≤ x) : rd bs W (k + 1) x = none := by unfold rd; rw [if_pos h]
theorem rd_T (h : ¬ W ≤ x) (hT : rdT bs W x = none) : rd bs W (k + 1) x = none := by unfold rd; rw [if_neg h, hT]
theorem rd_L (h : ¬ W ≤ x) (hT : rdT bs W x = some (tag, a1)) : rd bs W (k + 1) x = rdL bs W (fun y => (rd bs W k y).map (·.e)) (gi bs x) tag a1 := by
  conv => lhs; unfold rd
  rw [if_neg h, hT]
theorem rdT_plain (h : (gi bs x).fmod 32 ≠ 31) : rdT bs W x = some ((gi bs x).fmod 32, x + 1) := by unfold rdT; rw [if_neg h]
theorem rdT_none (h : (gi bs x).fmod 32 = 31) (h2 : rdTag (reg bs W (x + 1)) = none) : rdT bs W x = none := by unfold rdT; rw [if_pos h, h2]
theorem rdT_bad {ds : List Int} (h : (gi bs x).fmod 32 = 31) (h2 : rdTag (reg bs W (x + 1)) = some ds) (h3 : ds.headD 0 = 128 ∨ foldT ds < 31) : rdT bs W x = none := by unfold rdT; rw [if_pos h, h2]; exact if_pos h3
theorem rdT_long {ds : List Int} (h : (gi bs x).fmod 32 = 31) (h2 : rdTag (reg bs W (x + 1)) = some ds) (h3 : ds.headD 0 ≠ 128) (h4 : ¬ foldT ds < 31) : rdT bs W x = some (foldT ds, x + 1 + (ds.length : Int)) := by unfold rdT; rw [if_pos h, h2]; exact if_neg fun q => q.elim h3 h4
theorem rdL_a (h : W ≤ a1) : rdL bs W ch first tag a1 = none := by unfold rdL; rw [if_pos h]
theorem rdL_b (h : ¬ W ≤ a1) (h2 : gi bs a1 = 128) (h3 : (first.fdiv 32).fmod 2 = 0) : rdL bs W ch first tag a1 = none := by unfold rdL; rw [if_neg h, if_pos h2, if_pos h3]
theorem rdL_c0 (h : ¬ W ≤ a1) (h2 : gi bs a1 = 128) (h4 : rdEnd bs W ch (W.toNat + 1) (a1 + 1) = none) : rdL bs W ch first tag a1 = none := by
  unfold rdL; rw [if_neg h, if_pos h2, h4]; split <;> rfl
theorem rdL_c {y : Int} (h : ¬ W ≤ a1) (h2 : gi bs a1 = 128) (h3 : (first.fdiv 32).fmod 2 ≠ 0) (h4 : rdEnd bs W ch (W.toNat + 1) (a1 + 1) = some y) : rdL bs W ch first tag a1 = some ⟨first.fdiv 64, (first.fdiv 32).fmod 2, tag, a1 + 1, y, y + 2⟩ := by
  unfold rdL; rw [if_neg h, if_pos h2, if_neg h3, h4]
theorem rdL_d (h : ¬ W ≤ a1) (h2 : gi bs a1 ≠ 128) (h3 : 128 < gi bs a1) (h4 : W < a1 + 1 + (gi bs a1 - 128)) : rdL bs W ch first tag a1 = none := by unfold rdL; rw [if_neg h, if_neg h2, if_pos h3, if_pos h4]
theorem rdL_e {z : Int} (h : ¬ W ≤ a1) (h2 : gi bs a1 ≠ 128) (h3 : 128 < gi bs a1) (h4 : ¬ W < a1 + 1 + (gi bs a1 - 128)) (hz : z = foldS ((bs.drop (a1 + 1).toNat).take (gi bs a1 - 128).toNat)) (h5 : W < a1 + 1 + (gi bs a1 - 128) + z) : rdL bs W ch first tag a1 = none := by
  subst hz; unfold rdL; rw [if_neg h, if_neg h2, if_pos h3, if_neg h4, if_pos h5]
theorem rdL_f {z : Int} (h : ¬ W ≤ a1) (h2 : gi bs a1 ≠ 128) (h3 : 128 < gi bs a1) (h4 : ¬ W < a1 + 1 + (gi bs a1 - 128)) (hz : z = foldS ((bs.drop (a1 + 1).toNat).take (gi bs a1 - 128).toNat)) (h5 : ¬ W < a1 + 1 + (gi bs a1 - 128) + z) :
    rdL bs W ch first tag a1 = some ⟨first.fdiv 64, (first.fdiv 32).fmod 2, tag, a1 + 1 + (gi bs a1 - 128), a1 + 1 + (gi bs a1 - 128) + z, a1 + 1 + (gi bs a1 - 128) + z⟩ := by
  subst hz; unfold rdL; rw [if_neg h, if_neg h2, if_pos h3, if_neg h4, if_neg h5]
theorem rdL_g (h : ¬ W ≤ a1) (h2 : gi bs a1 ≠ 128) (h3 : ¬ 128 < gi bs a1) (h4 : W < a1 + 1 + gi bs a1) : rdL bs W ch first tag a1 = none := by unfold rdL; rw [if_neg h, if_neg h2, if_neg h3, if_pos h4]
theorem rdL_h (h : ¬ W ≤ a1) (h2 : gi bs a1 ≠ 128) (h3 : ¬ 128 < gi bs a1) (h4 : ¬ W < a1 + 1 + gi bs a1) : rdL bs W ch first tag a1 = some ⟨first.fdiv 64, (first.fdiv 32).fmod 2, tag, a1 + 1, a1 + 1 + gi bs a1, a1 + 1 + gi bs a1⟩ := by unfold rdL; rw [if_neg h, if_neg h2, if_neg h3, if_neg h4]
theorem rdEnd_here {F : Nat} {z : Int} (h1 : z + 2 ≤ W) (h2 : gi bs z = 0) (h3 : gi bs (z + 1) = 0) : rdEnd bs W ch (F + 1) z = some z := by unfold rdEnd; rw [if_pos ⟨h1, h2, h3⟩]
theorem rdEnd_none {F : Nat} {z : Int} (h : ¬ (z + 2 ≤ W ∧ gi bs z = 0 ∧ gi bs (z + 1) = 0)) (hc : ch z = none) : rdEnd bs W ch (F + 1) z = none := by unfold rdEnd; rw [if_neg h, hc]
theorem rdEnd_step {F : Nat} {z y : Int} (h : ¬ (z + 2 ≤ W ∧ gi bs z = 0 ∧ gi bs (z + 1) = 0)) (hc : ch z = some y) : rdEnd bs W ch (F + 1) z = rdEnd bs W ch F y := by
  conv => lhs; unfold rdEnd
  rw [if_neg h, hc]
/-- the walk over the parts of an element without a length: what is left to do -/
def EndInv (bs : List Int) (W : Int) (ch : Int → Option Int) (a2 z : Int) : Prop := a2 ≤ z ∧ z ≤ W ∧ ∃ F : Nat, W + 1 ≤ z + (F : Int) ∧ rdEnd bs W ch (W.toNat + 1) a2 = rdEnd bs W ch F z
theorem EndInv.start {a2 : Int} (h0 : 0 ≤ a2) (h : a2 ≤ W) : EndInv bs W ch a2 a2 := ⟨Int.le_refl _, h, W.toNat + 1, by omega, rfl⟩
theorem EndInv.none {a2 z : Int} (h : EndInv bs W ch a2 z) (hn : ¬ (z + 2 ≤ W ∧ gi bs z = 0 ∧ gi bs (z + 1) = 0)) (hc : ch z = none) : rdEnd bs W ch (W.toNat + 1) a2 = none := by
  obtain ⟨h1, h2, F, h3, h4⟩ := h
  obtain ⟨G, rfl⟩ : ∃ G, F = G + 1 := ⟨F - 1, by omega⟩
  rw [h4, rdEnd_none hn hc]
theorem EndInv.step {a2 z y : Int} (h : EndInv bs W ch a2 z) (hn : ¬ (z + 2 ≤ W ∧ gi bs z = 0 ∧ gi bs (z + 1) = 0)) (hc : ch z = some y) (hy : z + 2 ≤ y ∧ y ≤ W) : EndInv bs W ch a2 y := by
  obtain ⟨h1, h2, F, h3, h4⟩ := h
  obtain ⟨G, rfl⟩ : ∃ G, F = G + 1 := ⟨F - 1, by omega⟩
  exact ⟨by omega, hy.2, G, by omega, by rw [h4, rdEnd_step hn hc]⟩
theorem EndInv.here {a2 z : Int} (h : EndInv bs W ch a2 z) (h1 : z + 2 ≤ W) (h2 : gi bs z = 0) (h3 : gi bs (z + 1) = 0) : rdEnd bs W ch (W.toNat + 1) a2 = some z := by
  obtain ⟨_, _, F, h5, h4⟩ := h
  obtain ⟨G, rfl⟩ : ∃ G, F = G + 1 := ⟨F - 1, by omega⟩
  rw [h4, rdEnd_here h1 h2 h3]
end
/-- the digits of a long tag, read one by one -/
def TagInv (bs : List Int) (W a : Int) (ds : List Int) (y : Int) : Prop :=
  y = a + (ds.length : Int) ∧ y ≤ W ∧ BytesL ds ∧
    (((∀ d ∈ ds, 128 ≤ d) ∧ rdTag (reg bs W a) = (rdTag (reg bs W y)).map (ds ++ ·)) ∨ (∃ init last, ds = init ++ [last] ∧ last < 128 ∧ rdTag (reg bs W a) = some ds))
section
variable {bs ds : List Int} {W a y : Int}
theorem TagInv.start (h : a ≤ W) : TagInv bs W a [] a := ⟨by simp, h, .nil, .inl ⟨(fun _ h => nomatch h), by simp⟩⟩
theorem TagInv.none (h : TagInv bs W a ds y) (hW : 0 ≤ W) (hc : ds = [] ∨ ∃ init last, ds = init ++ [last] ∧ 128 ≤ last) (hy : W ≤ y) : rdTag (reg bs W a) = none := by
  obtain ⟨h1, h2, h3, h4 | ⟨init, last, e, h5, h6⟩⟩ := h
  · rw [h4.2, reg_nil hW hy]; rfl
  · rcases hc with rfl | ⟨i2, l2, e2, h7⟩
    · simp at e
    · rw [e] at e2
      have := (List.append_inj' e2 rfl).2
      simp at this
      omega
theorem TagInv.step (h : TagInv bs W a ds y) (hB : BytesL bs) (hW : W ≤ bs.length) (ha : 0 ≤ a) (hc : ds = [] ∨ ∃ init last, ds = init ++ [last] ∧ 128 ≤ last) (hy : ¬ W ≤ y) : TagInv bs W a (ds ++ [gi bs y]) (y + 1) := by
  have g := gi_bytes hB y
  obtain ⟨h1, h2, h3, h4 | ⟨init, last, e, h5, h6⟩⟩ := h
  · refine ⟨by simp; omega, by omega, bytesL_snoc h3 g.1 g.2, ?_⟩
    have e := reg_cons (bs := bs) hW (a := y) (by omega) (by omega)
    by_cases q : gi bs y < 128
    · refine .inr ⟨ds, _, rfl, q, ?_⟩
      rw [h4.2, e]
      unfold rdTag
      rw [if_pos q]; rfl
    · refine .inl ⟨fun d hd => ?_, ?_⟩
      · rcases List.mem_append.mp hd with hd | hd
        · exact h4.1 d hd
        · rw [List.mem_singleton.mp hd]; omega
      · rw [h4.2, e]
        conv => lhs; unfold rdTag
        rw [if_neg q, Option.map_map]
        congr 1
        funext l
        simp
  · rcases hc with rfl | ⟨i2, l2, e2, h7⟩
    · simp at e
    · rw [e] at e2
      have := (List.append_inj' e2 rfl).2
      simp at this
      omega
theorem TagInv.done {init : List Int} {last : Int} (h : TagInv bs W a (init ++ [last]) y) (hl : last < 128) : rdTag (reg bs W a) = some (init ++ [last]) := by
  obtain ⟨h1, h2, h3, h4 | ⟨i2, l2, e, h5, h6⟩⟩ := h
  · have := h4.1 last (by simp); omega
  · exact h6
theorem headD_getD (ds : List Int) : ds.getD 0 0 = ds.headD 0 := by cases ds <;> rfl
end
theorem nil_or_snoc (ds : List Int) : ds = [] ∨ ∃ init last, ds = init ++ [last] := by
  rcases List.eq_nil_or_concat ds with h | ⟨i, l, h⟩
  · exact .inl h
  · exact .inr ⟨i, l, by rw [h, List.concat_eq_append]⟩
theorem getD_last (init : List Int) (last : Int) : (init ++ [last]).getD (-1 + ((init ++ [last]).length : Int)).toNat 0 = last := by
  have e : (-1 + ((init ++ [last]).length : Int)).toNat = init.length := by
    rw [List.length_append, List.length_singleton]; omega
  rw [e, List.getD_eq_getElem?_getD]
  simp
def sl (bs : List Int) (a b : Int) : List Int := (bs.drop a.toNat).take (b - a).toNat
theorem sl_len (bs : List Int) (a b : Int) : (sl bs a b).length ≤ (b - a).toNat := by
  unfold sl; exact List.length_take_le _ _
theorem sl_nil (bs : List Int) (a : Int) : sl bs a a = [] := by
  unfold sl; rw [Int.sub_self]; simp
theorem sl_bytes {bs : List Int} (h : BytesL bs) (a b : Int) : BytesL (sl bs a b) := fun y hy => h y (List.mem_of_mem_drop (List.mem_of_mem_take hy))
section
variable {bs : List Int} {W x tag a1 first : Int} {k : Nat} {ch : Int → Option Int}
theorem rdL_bP (hB : BytesL bs) (h : ¬ W ≤ a1) (h2 : gi bs a1 / 128 ≠ 0) (h2' : gi bs a1 % 128 = 0) (h3 : (first.fdiv 32).fmod 2 = 0) : rdL bs W ch first tag a1 = none :=
  rdL_b h (by have := gi_bytes hB a1; omega) h3
theorem rdL_c0P (hB : BytesL bs) (h : ¬ W ≤ a1) (h2 : gi bs a1 / 128 ≠ 0) (h2' : gi bs a1 % 128 = 0) (h4 : rdEnd bs W ch (W.toNat + 1) (a1 + 1) = none) : rdL bs W ch first tag a1 = none :=
  rdL_c0 h (by have := gi_bytes hB a1; omega) h4
theorem rdL_cP {y : Int} (hB : BytesL bs) (h : ¬ W ≤ a1) (h2 : gi bs a1 / 128 ≠ 0) (h2' : gi bs a1 % 128 = 0) (h3 : (first.fdiv 32).fmod 2 ≠ 0) (h4 : rdEnd bs W ch (W.toNat + 1) (a1 + 1) = some y) : rdL bs W ch first tag a1 = some ⟨first.fdiv 64, (first.fdiv 32).fmod 2, tag, a1 + 1, y, y + 2⟩ :=
  rdL_c h (by have := gi_bytes hB a1; omega) h3 h4
theorem rdL_dP (hB : BytesL bs) (h : ¬ W ≤ a1) (h2 : gi bs a1 / 128 ≠ 0) (h2' : gi bs a1 % 128 ≠ 0) (h4 : W < a1 + 1 + gi bs a1 % 128) : rdL bs W ch first tag a1 = none :=
  rdL_d h (by have := gi_bytes hB a1; omega) (by have := gi_bytes hB a1; omega) (by have := gi_bytes hB a1; omega)
theorem many_eq (hB : BytesL bs) (h2 : gi bs a1 / 128 ≠ 0) (h0 : 0 ≤ a1) : sl bs (a1 + 1 + gi bs a1 % 128 - gi bs a1 % 128) (a1 + 1 + gi bs a1 % 128) = (bs.drop (a1 + 1).toNat).take (gi bs a1 - 128).toNat := by
  have := gi_bytes hB a1
  unfold sl
  have e1 : a1 + 1 + gi bs a1 % 128 - gi bs a1 % 128 = a1 + 1 := by omega
  have e2 : a1 + 1 + gi bs a1 % 128 - (a1 + 1) = gi bs a1 - 128 := by omega
  rw [e1, e2]
theorem rdL_eP {z : Int} (hB : BytesL bs) (h0 : 0 ≤ a1) (h : ¬ W ≤ a1) (h2 : gi bs a1 / 128 ≠ 0) (h2' : gi bs a1 % 128 ≠ 0) (h4 : ¬ W < a1 + 1 + gi bs a1 % 128) (hz : z = foldS (sl bs (a1 + 1 + gi bs a1 % 128 - gi bs a1 % 128) (a1 + 1 + gi bs a1 % 128))) (h5 : W < a1 + 1 + gi bs a1 % 128 + z) : rdL bs W ch first tag a1 = none :=
  rdL_e h (by have := gi_bytes hB a1; omega) (by have := gi_bytes hB a1; omega) (by have := gi_bytes hB a1; omega) (hz.trans (by rw [many_eq hB h2 h0])) (by have := gi_bytes hB a1; omega)
theorem rdL_fP {z : Int} (hB : BytesL bs) (h0 : 0 ≤ a1) (h : ¬ W ≤ a1) (h2 : gi bs a1 / 128 ≠ 0) (h2' : gi bs a1 % 128 ≠ 0) (h4 : ¬ W < a1 + 1 + gi bs a1 % 128) (hz : z = foldS (sl bs (a1 + 1 + gi bs a1 % 128 - gi bs a1 % 128) (a1 + 1 + gi bs a1 % 128))) (h5 : ¬ W < a1 + 1 + gi bs a1 % 128 + z) :
    rdL bs W ch first tag a1 = some ⟨first.fdiv 64, (first.fdiv 32).fmod 2, tag, a1 + 1 + gi bs a1 % 128, a1 + 1 + gi bs a1 % 128 + z, a1 + 1 + gi bs a1 % 128 + z⟩ := by
  have g := gi_bytes hB a1
  have e : gi bs a1 % 128 = gi bs a1 - 128 := by omega
  rw [rdL_f h (by omega) (by omega) (by omega) (hz.trans (by rw [many_eq hB h2 h0])) (by omega), e]
theorem rdL_gP (hB : BytesL bs) (h : ¬ W ≤ a1) (h2 : gi bs a1 / 128 = 0) (h4 : W < a1 + 1 + gi bs a1 % 128) : rdL bs W ch first tag a1 = none :=
  rdL_g h (by have := gi_bytes hB a1; omega) (by have := gi_bytes hB a1; omega) (by have := gi_bytes hB a1; omega)
theorem rdL_hP (hB : BytesL bs) (h : ¬ W ≤ a1) (h2 : gi bs a1 / 128 = 0) (h4 : ¬ W < a1 + 1 + gi bs a1 % 128) : rdL bs W ch first tag a1 = some ⟨first.fdiv 64, (first.fdiv 32).fmod 2, tag, a1 + 1, a1 + 1 + gi bs a1 % 128, a1 + 1 + gi bs a1 % 128⟩ := by
  have g := gi_bytes hB a1
  have e : gi bs a1 % 128 = gi bs a1 := by omega
  rw [rdL_h h (by omega) (by omega) (by omega), e]
end
theorem sl_two {bs : List Int} {z : Int} (h0 : 0 ≤ z) (h1 : z + 2 ≤ bs.length) : sl bs z (z + 2) = [gi bs z, gi bs (z + 1)] := by
  unfold sl gi
  have e : (z + 2 - z).toNat = 2 := by omega
  have e2 : (z + 1).toNat = z.toNat + 1 := by omega
  rw [e, e2]
  have hl : z.toNat < bs.length := by omega
  have hl2 : z.toNat + 1 < bs.length := by omega
  have d1 : bs.getD z.toNat 0 = bs[z.toNat] := by rw [List.getD_eq_getElem?_getD, List.getElem?_eq_getElem hl]; rfl
  have d2 : bs.getD (z.toNat + 1) 0 = bs[z.toNat + 1] := by rw [List.getD_eq_getElem?_getD, List.getElem?_eq_getElem hl2]; rfl
  rw [d1, d2, List.drop_eq_getElem_cons hl]
  have d3 : bs.drop (z.toNat + 1) = bs[z.toNat + 1] :: bs.drop (z.toNat + 1 + 1) := List.drop_eq_getElem_cons hl2
  rw [d3]
  rfl
/-- the digits of a long tag, read by _parse -/
def TagGo (bs : List Int) (W a : Int) (ds : List Int) (y z : Int) : Prop :=
  y = a + (ds.length : Int) ∧ y ≤ W ∧ BytesL ds ∧ (∀ d ∈ ds, 128 ≤ d) ∧ rdTag (reg bs W a) = (rdTag (reg bs W y)).map (ds ++ ·) ∧ z = foldT ds ∧ (ds = [] ∨ ds.headD 0 ≠ 128)
theorem foldT_pos {d : Int} {r : List Int} (h : 1 ≤ d.fmod 128) : 1 ≤ foldT (d :: r) := by
  unfold foldT
  rw [List.foldl_cons]
  suffices H : ∀ (l : List Int) (t : Int), 1 ≤ t → 1 ≤ l.foldl (fun t d => 128 * t + d.fmod 128) t from H r _ (by omega)
  intro l
  induction l with
  | nil => intro t h; exact h
  | cons x r ih => intro t ht; exact ih _ (by have := mfmod_lo (x := x) (k := 128) (by decide); show 1 ≤ 128 * t + x.fmod 128; omega)
section
variable {bs ds : List Int} {W a y z : Int}
theorem TagGo.start (h : a ≤ W) : TagGo bs W a [] a 0 := ⟨by simp, h, .nil, (fun _ h => nomatch h), by simp, rfl, .inl rfl⟩
theorem TagGo.over (h : TagGo bs W a ds y z) (hW : 0 ≤ W) (hy : W ≤ y) : rdTag (reg bs W a) = none := by
  rw [h.2.2.2.2.1, reg_nil hW hy]; rfl
/-- the first digit is 128 -/
theorem TagGo.bad {x : Int} (h : TagGo bs W (x + 1) ds y z) (h31 : (gi bs x).fmod 32 = 31) (hB : BytesL bs) (hW : W ≤ bs.length) (ha : 0 ≤ x) (hy : ¬ W < y + 1) (hn : gi bs y = 128) (hz : z = 0) : rdT bs W x = none := by
  obtain ⟨h1, h2, h3, h4, h5, h6, h7⟩ := h
  have e : ds = [] := by
    rcases h7 with h7 | h7
    · exact h7
    · cases ds with
      | nil => rfl
      | cons d r =>
        have hd := h4 d (.head _)
        have hd2 := h3 d (.head _)
        have : 1 ≤ d.fmod 128 := by
          have : d ≠ 128 := h7
          rw [Int.fmod_eq_emod_of_nonneg _ (by decide)]; omega
        have := foldT_pos (r := r) this
        omega
  subst e
  have hy : y = x + 1 := by simpa using h1
  subst hy
  have r := reg_cons (bs := bs) hW (a := x + 1) (by omega) (by omega)
  cases q : rdTag (reg bs W (x + 1)) with
  | none => exact rdT_none h31 q
  | some ds' =>
    refine rdT_bad h31 q (.inl ?_)
    rw [r] at q
    unfold rdTag at q
    rw [if_neg (by omega)] at q
    cases q2 : rdTag (reg bs W (x + 1 + 1)) with
    | none => rw [q2] at q; cases q
    | some l => rw [q2] at q; cases q; exact hn
theorem TagGo.head (h : TagGo bs W a ds y z) (hn : ¬ (gi bs y = 128 ∧ z = 0)) : (ds ++ [gi bs y]).headD 0 ≠ 128 := by
  obtain ⟨h1, h2, h3, h4, h5, h6, h7⟩ := h
  cases ds with
  | nil => exact fun q => hn ⟨q, h6⟩
  | cons d r => exact h7.elim (fun q => nomatch q) id
theorem TagGo.step (h : TagGo bs W a ds y z) (hB : BytesL bs) (hW : W ≤ bs.length) (ha : 0 ≤ a) (hy : ¬ W < y + 1) (hn : ¬ (gi bs y = 128 ∧ z = 0)) (hc : gi bs y / 128 ≠ 0) : TagGo bs W a (ds ++ [gi bs y]) (y + 1) (z * 128 + gi bs y % 128) := by
  have hh := h.head hn
  have g := gi_bytes hB y
  obtain ⟨h1, h2, h3, h4, h5, h6, h7⟩ := h
  have r := reg_cons (bs := bs) hW (a := y) (by omega) (by omega)
  refine ⟨by simp; omega, by omega, bytesL_snoc h3 g.1 g.2, fun d hd => ?_, ?_, ?_, .inr hh⟩
  · rcases List.mem_append.mp hd with hd | hd
    · exact h4 d hd
    · rw [List.mem_singleton.mp hd]; omega
  · rw [h5, r]
    conv => lhs; unfold rdTag
    rw [if_neg (by omega), Option.map_map]
    congr 1
    funext l
    simp
  · rw [foldT_snoc, h6, Int.fmod_eq_emod_of_nonneg _ (by decide)]; omega
theorem TagGo.done (h : TagGo bs W a ds y z) (hB : BytesL bs) (hW : W ≤ bs.length) (ha : 0 ≤ a) (hy : ¬ W < y + 1) (hc : gi bs y / 128 = 0) : rdTag (reg bs W a) = some (ds ++ [gi bs y]) := by
  have g := gi_bytes hB y
  obtain ⟨h1, h2, h3, h4, h5, h6, h7⟩ := h
  rw [h5, reg_cons (bs := bs) hW (a := y) (by omega) (by omega)]
  unfold rdTag
  rw [if_pos (by omega)]; rfl
theorem TagGo.long {x : Int} (h : TagGo bs W (x + 1) ds y z) (h31 : (gi bs x).fmod 32 = 31) (hB : BytesL bs) (hW : W ≤ bs.length) (ha : 0 ≤ x) (hy : ¬ W < y + 1) (hn : ¬ (gi bs y = 128 ∧ z = 0)) (hc : gi bs y / 128 = 0) (ht : ¬ z * 128 + gi bs y % 128 < 31) :
    rdT bs W x = some (z * 128 + gi bs y % 128, y + 1) := by
  have e : foldT (ds ++ [gi bs y]) = z * 128 + gi bs y % 128 := by rw [foldT_snoc, h.2.2.2.2.2.1, Int.fmod_eq_emod_of_nonneg _ (by decide)]; omega
  rw [rdT_long h31 (h.done hB hW (by omega) hy hc) (h.head hn) (by rw [e]; exact ht), e, List.length_append, List.length_singleton]
  have := h.1
  congr 2
  push_cast
  omega
theorem TagGo.low {x : Int} (h : TagGo bs W (x + 1) ds y z) (h31 : (gi bs x).fmod 32 = 31) (hB : BytesL bs) (hW : W ≤ bs.length) (ha : 0 ≤ x) (hy : ¬ W < y + 1) (hc : gi bs y / 128 = 0) (ht : z * 128 + gi bs y % 128 < 31) : Mine.rdT bs W x = none := by
  have e : foldT (ds ++ [gi bs y]) = z * 128 + gi bs y % 128 := by rw [foldT_snoc, h.2.2.2.2.2.1, Int.fmod_eq_emod_of_nonneg _ (by decide)]; omega
  exact rdT_bad h31 (h.done hB hW (by omega) hy hc) (.inr (by rw [e]; exact ht))
end
theorem value_eq (ks : List Int) : KFB.value ks = foldS ks := by
  unfold KFB.value foldS
  congr 1
  funext a k
  rw [Int.mul_comm]
theorem foldS_lt : ∀ {ks : List Int}, BytesL ks → foldS ks < 256 ^ ks.length := by
  intro ks h
  unfold foldS
  suffices H : ∀ (l : List Int) (t : Int), BytesL l → 0 ≤ t → l.foldl (fun t d => 256 * t + d) t < (t + 1) * 256 ^ l.length by
    have := H ks 0 h (by decide); simpa using this
  intro l
  induction l with
  | nil => intro t _ _; simp; omega
  | cons x r ih =>
    intro t hl ht
    have hx := hl x (.head _)
    have h1 := ih (256 * t + x) (fun y hy => hl y (.tail _ hy)) (by omega)
    have h2 : (256 * t + x + 1) * 256 ^ r.length ≤ ((t + 1) * 256) * 256 ^ r.length := Int.mul_le_mul_of_nonneg_right (by omega) (Int.le_of_lt (Int.pow_pos (by decide)))
    have e : (t + 1) * 256 ^ (x :: r).length = ((t + 1) * 256) * 256 ^ r.length := by
      rw [List.length_cons, Int.pow_succ, Int.mul_comm (256 ^ r.length) 256, Int.mul_assoc]
    rw [e]
    exact Int.lt_of_lt_of_le h1 h2

section
variable {prog : Program} {w : World} {mean : ExcName → Option Value} {mg mb : Str → Option Value}
/-- the contract of _law_read, k levels left -/
def ReadC (prog : Program) (w : World) (mean : ExcName → Option Value) (mg mb : Str → Option Value) (k : Nat) : Prop :=
  ∀ (ro : Addr) (vs : List Value) (bs : List Int) (nr : Nat) (W x dep : Int) (t1 t2 t3 : Tok), IntsAre vs bs → BytesL bs → bs.length ≤ 1000 → 0 ≤ W → W ≤ bs.length → 0 ≤ x → x ≤ 3000 → 0 ≤ dep → (11 - dep).toNat = k →
   HC prog w mean mg mb (3 + k) 85 [.ref ro, .int W t1, .int x t2, .int dep t3] [(ro, lsO vs nr)] (fun r own' =>
     (rd bs W k x = none ∧ r = .none ∧ own' = [(ro, lsO vs nr)]) ∨
     ∃ d a n u1 u2 u3 u4 u5 u6, rd bs W k x = some d ∧ r = .ref a ∧ @Ne Nat a ro ∧ own' = [(ro, lsO vs nr), (a, lsO [.int d.c u1, .int d.m u2, .int d.t u3, .int d.c0 u4, .int d.c1 u5, .int d.e u6] n)]) False
end
section
variable {prog : Program} {w : World} {mean : ExcName → Option Value} {mg mb : Str → Option Value}
theorem use_read {k : Nat} (IH : ReadC prog w mean mg mb k) {ro : Addr} {vs : List Value} {bs : List Int} {nr : Nat} {W x dep : Int} {t1 t2 t3 : Tok}
    {dp un : Nat} {gd : Option (List Code)} {base g : Heap} {envs : List Env} {s : Shared} {Q E : Value → Shared → Prop} {L : Addr} {m : Str → Option Value} {cn : Str} {cs : Scope} {a : Addr} {ccd : Value} {news rest : List (Addr × Obj)}
    (C : At w mean mg mb (ktA dp un gd envs) base g envs) (F : Fr g L s.heap m) (N : News g L s.heap news) (hk : cs.kind = .function)
    (p1 : Pick ro (lsO vs nr) news rest) (hV : IntsAre vs bs) (hB : BytesL bs) (hl : bs.length ≤ 1000) (hW0 : 0 ≤ W) (hW : W ≤ bs.length) (hx0 : 0 ≤ x) (hx1 : x ≤ 3000) (hd0 : 0 ≤ dep) (hdk : (11 - dep).toNat = k)
    (hd' : dp + 1 + (3 + k) < recursionLimit) (hu : un + 3 + 8 * (3 + k) + 200 < cLine)
    (retN : ∀ h' tk', rd bs W k x = none → Fr g L h' m → News g L h' ((ro, lsO vs nr) :: rest) → Q .none { s with heap := h', toks := tk' })
    (retS : ∀ d a n u1 u2 u3 u4 u5 u6 h' tk', rd bs W k x = some d → @Ne Nat a ro → NeAll a rest → Fr g L h' m → News g L h' ((ro, lsO vs nr) :: (a, lsO [.int d.c u1, .int d.m u2, .int d.t u3, .int d.c0 u4, .int d.c1 u5, .int d.e u6] n) :: rest) → Q (.ref a) { s with heap := h', toks := tk' }) :
    wpAny (model prog w) ((ktA dp un gd envs).deeper (envOf cn cs L a ccd)) (call (.ref 85) [.ref ro, .int W t1, .int x t2, .int dep t3]) Q E s := by
  obtain ⟨a1, a2, a3⟩ := p1.mem
  refine hc_use (rest := rest) (IH ro vs bs nr W x dep t1 t2 t3 hV hB hl hW0 hW hx0 hx1 hd0 hdk) C F (fun p hp => N p ?_) hk (fun p hp h => ?_) hd' hu (fun r own' h' tk' F' N' hn hP => ?_) (fun _ _ _ _ _ h => h.elim)
  · rcases List.mem_cons.mp hp with rfl | hp
    · exact a1
    · exact a2 _ hp
  · simp only [ads, List.map_cons, List.map_nil, List.mem_singleton] at h
    exact a3 p hp h
  · rcases hP with ⟨h1, rfl, rfl⟩ | ⟨d, a, n, u1, u2, u3, u4, u5, u6, h1, rfl, h2, rfl⟩
    · exact retN h' tk' h1 F' N'
    · refine retS d a n u1 u2 u3 u4 u5 u6 h' tk' h1 h2 (neAll_of fun q hq => ?_) F' N'
      rcases hn (a, lsO [.int d.c u1, .int d.m u2, .int d.t u3, .int d.c0 u4, .int d.c1 u5, .int d.e u6] n) (by simp) with h | h
      · simp only [ads, List.map_cons, List.map_nil, List.mem_singleton] at h
        exact absurd h h2
      · exact h q (List.mem_append_right _ hq)
section
variable {A : Around} {E : Value → Shared → Prop} {s : Shared} {h₀ : Heap} {L a b : Addr} {news : List (Addr × Obj)} {n n2 : Nat} {vs : List Value} {ns init : List Int} {last : Int}
theorem eqnil_t {Q : Value → Shared → Prop} (N : News h₀ L s.heap news) (h1 : (a, listOf [].toArray n) ∈ news) (h2 : (b, listOf [].toArray n2) ∈ news) (hu : A.units + 64 < cLine) (h : Q (.bool true) s) :
    wpAny (model prog w) A (compareOp .Eq (.ref a) (.ref b)) Q E s :=
  eq_intsK (ns := []) (ms := []) (PySem.IsL.isList (n := n) (N _ h1).1) .nil (PySem.IsL.isList (n := n2) (N _ h2).1) .nil hu h
theorem eqnil_f {Q : Value → Shared → Prop} (N : News h₀ L s.heap news) (h1 : (a, listOf vs.toArray n) ∈ news) (hi : IntsAre vs (init ++ [last])) (h2 : (b, listOf [].toArray n2) ∈ news) (hu : A.units + 64 < cLine) (h : Q (.bool false) s) :
    wpAny (model prog w) A (compareOp .Eq (.ref a) (.ref b)) Q E s :=
  eq_intsK (ns := init ++ [last]) (ms := []) (PySem.IsL.isList (n := n) (N _ h1).1) hi (PySem.IsL.isList (n := n2) (N _ h2).1) .nil hu (by rw [decide_eq_false (by simp)]; exact h)
end
end
--MACRO
local macro_rules | `(tactic| walk_at "m_read") => `(tactic| (
  (with_reducible show wpAny _ _ (call (Value.ref 85) _) _ _ _);
  (with_reducible rename ReadC _ _ _ _ _ _ => IH');
  k_dflt (refine' use_read IH' ?C ?F ?N ?hk ?p1 ?v ?b ?l1 ?l2 ?l3 ?l4 ?l5 ?l6 ?l7 ?hd ?hu ?rN ?rS; (case C => k_asm); (case F => k_asm); (case N => k_asm); (case hk => rfl); (case p1 => walk_at "m_pick"); (case v => k_asm); (case b => k_asm); (case l1 => omega); (case l2 => omega); (case l3 => omega); (case l4 => omega); (case l5 => omega); (case l6 => omega); (case l7 => omega); (case hd => omega); (case hu => omega));
  (case' rN => (intro h' tk' hr' F' N'; (try dsimp only); (try k_fold); (try k_sweep)));
  (case' rS => (intro d' a' n' u1' u2' u3' u4' u5' u6' h' tk' hr' ha1' ha2' F' N'; (simp only [NeAll, and_true] at ha2'); (try dsimp only); (try k_fold); (try k_sweep)))))
local macro_rules | `(tactic| walk_at "call ref") => `(tactic| first | walk_at "m_take" | walk_at "m_some" | walk_at "m_first" | walk_at "m_sized" | walk_at "m_grow" | walk_at "m_read")
local macro_rules | `(tactic| walk_at "compareOp Eq ref ref") => `(tactic| (k_here; (with_reducible show wpAny _ _ (compareOp CmpOp.Eq (Value.ref _) (Value.ref _)) _ _ _); k_dflt (first
  | (refine' eqnil_f ?N ?m1 ?hi ?m2 ?hu ?_; (case N => k_asm); (case m1 => k_mem); (case hi => with_reducible assumption); (case m2 => k_mem); (case hu => ((try dsimp only [Around.deeper_units, Around.in1]); omega)))
  | (refine' eqnil_t ?N ?m1 ?m2 ?hu ?_; (case N => k_asm); (case m1 => k_mem); (case m2 => k_mem); (case hu => ((try dsimp only [Around.deeper_units, Around.in1]); omega))))))
local macro_rules | `(tactic| walk_at "exec For Name Subscript cons nil") => `(tactic| (k_here; (rename Fr _ _ _ _ => lF'); (with_unfolding_all refine' For_invVF lF' ?k1 ?k2 ?_; (case k1 => exact rfl); (case k2 => exact rfl))))
local macro_rules | `(tactic| walk_at "exec For Name Name cons nil") => `(tactic| (k_here; (rename Fr _ _ _ _ => lF'); (with_unfolding_all refine' For_invVF lF' ?k1 ?k2 ?_; (case k1 => exact rfl); (case k2 => exact rfl))))
--END
section
variable {prog : Program} {w : World} {mean : ExcName → Option Value} {mg mb : Str → Option Value}
set_option maxHeartbeats 8000000 in
theorem read0 : ReadC prog w mean mg mb 0 := by
  intro ro vs bs nr W x dep t1 t2 t3 hV hB hlen hW0 hW hx0 hx1 hd0 hdk
  intro dp un gd base envs s Q E C O hd hu ret rz
  refine hc_enter C O (by omega) (by k_dflt k_is) (by k_dflt k_is) (fun _ _ => BindsTo.of_eq rfl) (locs rfl) rfl rfl rfl (by decide) ?_
  intro g L h₁ F N B X T KG GS
  have C' : At w mean mg mb (ktA dp un gd envs) base g envs := ⟨B, C.X, C.T⟩
  dsimp only
  have hdd : 10 < dep := by omega
  k_steps
  all_goals (try dsimp only)
  refine fin_ret ret KG (by k_asm) (by k_asm) (.inl ⟨rfl, rfl, rfl⟩)
--GEN
set_option maxHeartbeats 8000000 in
theorem readS (k : Nat) (hk : k ≤ 10) (IH : ReadC prog w mean mg mb k) : ReadC prog w mean mg mb (k + 1) := by
  intro ro vs bs nr W x dep t1 t2 t3 hV hB hlen hW0 hW hx0 hx1 hd0 hdk
  intro dp un gd base envs s Q E C O hd hu ret rz
  refine hc_enter C O (by omega) (by k_dflt k_is) (by k_dflt k_is) (fun _ _ => BindsTo.of_eq rfl) (locs rfl) rfl rfl rfl (by decide) ?_
  intro g L h₁ F N B X T KG GS
  have C' : At w mean mg mb (ktA dp un gd envs) base g envs := ⟨B, C.X, C.T⟩
  dsimp only
  have hdd : ¬ (10 < dep) := by omega
  k_steps
  all_goals (try dsimp only)
  · exact fin_ret ret KG (by k_asm) (by k_asm) (.inl ⟨rd_a (by assumption), rfl, rfl⟩)
  · rename_i l9 _ l19 _ _ _
    rename News _ _ _ _ => N2
    rename Fr _ _ _ _ => F2
    show wpAny _ _ _ _ _ _
    refine ksw_while (σ := List Int × List Value × Nat × Int × Tok) (fun c => [(l9, lsO c.2.1 c.2.2.1), (ro, lsO vs nr)]) (fun c => [(Str.ofString "at", .int c.2.2.2.1 c.2.2.2.2)]) (fun _ => True) [] (fun c => IntsAre c.2.1 c.1 ∧ TagInv bs W (x + 1) c.1 c.2.2.2.1) (fun c => (W + 1 - c.2.2.2.1).toNat) ([], [], 0, x + 1, _) F2 (news_sub N2 (by walk_at "m_sub")) trivial (by walk_at "m_all") ⟨.nil, .start (by omega)⟩ ?_
    rintro ⟨ds, ws, nw, y, ty⟩ u h tk' _ ⟨hI, hD⟩ F N
    dsimp only at hI hD F N ⊢
    clear N2 F2
    have hy1 := hD.1
    have hy2 := hD.2.1
    have hdl : ds.length ≤ 1000 := by omega
    rcases nil_or_snoc ds with rfl | ⟨init, last, rfl⟩
    · have hw := hI.nil_inv
      subst hw
      k_steps
      all_goals (try dsimp only)
      · exact fin_ret ret KG (by k_asm) (news_subN (by k_asm) (by walk_at "m_sub")) (.inl ⟨rd_T (by assumption) (rdT_none (by assumption) (hD.none hW0 (.inl rfl) (by assumption))), rfl, rfl⟩)
      · show KswEnd _ _ _ _ _ _ _ _ _ _ _ _
        rename News _ _ _ _ => N9'
        (try simp only [List.push_toArray] at N9')
        exact ksw_end ([gi bs y], [_], _, y + 1, _) (by k_asm) N9' (by walk_at "m_sub") trivial (by walk_at "m_all") (by walk_at "m_sameW") ⟨.cons _ _ .nil, hD.step hB hW (by omega) (.inl rfl) (by assumption)⟩ (by dsimp only; omega)
    · have hgl := getD_last init last
      k_steps
      all_goals (try dsimp only)
      · exact fin_ret ret KG (by k_asm) (news_subN (by k_asm) (by walk_at "m_sub")) (.inl ⟨rd_T (by assumption) (rdT_none (by assumption) (hD.none hW0 (.inr ⟨_, _, rfl, by omega⟩) (by assumption))), rfl, rfl⟩)
      · show KswEnd _ _ _ _ _ _ _ _ _ _ _ _
        rename News _ _ _ _ => N9'
        (try simp only [List.push_toArray] at N9')
        exact ksw_end (init ++ [last] ++ [gi bs y], ws ++ [_], _, y + 1, _) (by k_asm) N9' (by walk_at "m_sub") trivial (by walk_at "m_all") (by walk_at "m_sameW") ⟨intsAre_snoc hI _ _, hD.step hB hW (by omega) (.inr ⟨_, _, rfl, by omega⟩) (by assumption)⟩ (by dsimp only; omega)
      · rename News _ _ _ _ => N2
        rename Fr _ _ _ _ => F2
        show wpAny _ _ _ _ _ _
        have hR : rdTag (reg bs W (x + 1)) = some (init ++ [last]) := hD.done (by omega)
        refine for_ints (σ := Int × Tok) (fun _ => [(l9, lsO ws nw), (ro, lsO vs nr)]) (fun c => [(Str.ofString "tag", .int c.1 c.2)]) [] (fun pre c => c.1 = foldT pre) (0, _) rfl hI (fun _ => .head _) F2 (news_sub N2 (by walk_at "m_sub")) (by walk_at "m_all") rfl ?_ ?_
        · clear F2 N2
          rintro pre n t ⟨z, tz⟩ u h tk' I oI hn hP hne F N
          dsimp only at hP hne F N ⊢
          simp only [NeAll, and_true] at hne
          k_steps
          dsimp only [ForPost]
          rename News _ _ _ _ => N9'
          exact for_end (_, _) (by k_asm) N9' (by k_mem) (by walk_at "m_sub") (by walk_at "m_ne") (by walk_at "m_all") (by walk_at "m_same") (by dsimp only; rw [foldT_snoc, hP])
        · clear F2 N2
          rintro ⟨z, tz⟩ u h tk' hP F N
          dsimp only at hP F N ⊢
          have hx31 : (gi bs x).fmod 32 = 31 := by assumption
          have hTb : (init ++ [last]).getD (0 : Int).toNat 0 = 128 → rdT bs W x = none := fun q => rdT_bad hx31 hR (.inl (by rw [← headD_getD]; exact q))
          have hTc : z < 31 → rdT bs W x = none := fun q => rdT_bad hx31 hR (.inr (by rw [← hP]; exact q))
          have hTt : (init ++ [last]).getD (0 : Int).toNat 0 ≠ 128 → ¬ z < 31 → rdT bs W x = some (z, y) := fun q1 q2 => by
            rw [rdT_long hx31 hR (by rw [← headD_getD]; exact q1) (by rw [← hP]; exact q2), hP, hy1]
          k_steps
          all_goals (try dsimp only)
          · exact fin_ret ret KG (by k_asm) (news_subN (by k_asm) (by walk_at "m_sub")) (.inl ⟨rd_T (by assumption) (hTb (by assumption)), rfl, rfl⟩)
          · exact fin_ret ret KG (by k_asm) (news_subN (by k_asm) (by walk_at "m_sub")) (.inl ⟨rd_T (by assumption) (hTc (by assumption)), rfl, rfl⟩)
          · exact fin_ret ret KG (by k_asm) (news_subN (by k_asm) (by walk_at "m_sub")) (.inl ⟨(rd_L (by assumption) (hTt (by assumption) (by assumption))).trans (rdL_a (by assumption)), rfl, rfl⟩)
          · exact fin_ret ret KG (by k_asm) (news_subN (by k_asm) (by walk_at "m_sub")) (.inl ⟨(rd_L (by assumption) (hTt (by assumption) (by assumption))).trans (rdL_b (by assumption) (by assumption) (by assumption)), rfl, rfl⟩)
          · rename News _ _ _ _ => N2
            rename Fr _ _ _ _ => F2
            show wpAny _ _ _ _ _ _
            have hT' : rdT bs W x = some _ := (hTt (by assumption) (by assumption))
            refine ksw_while (σ := Int × Tok) (fun _ => [(l9, lsO ws nw), (ro, lsO vs nr)]) (fun c => [(Str.ofString "walk", .int c.1 c.2)]) (fun _ => True) [Str.ofString "inner"] (fun c => EndInv bs W (fun y => (rd bs W k y).map (·.e)) (y + 1) c.1) (fun c => (W + 1 - c.1).toNat) (y + 1, _) F2 (news_sub N2 (by walk_at "m_sub")) trivial (by walk_at "m_all") (.start (by omega) (by omega)) ?_
            rintro ⟨z, tz⟩ u h tk' _ hE F N
            dsimp only at hE F N ⊢
            have hz1 := hE.1
            have hz2 := hE.2.1
            clear N2 F2
            k_steps
            all_goals (try dsimp only)
            all_goals first
              | (rename rd _ _ _ _ = some _ => hr
                 show KswEnd _ _ _ _ _ _ _ _ _ _ _ _
                 have hb := rd_bounds hB hW (by omega) hr
                 rename News _ _ _ _ => N9'
                 refine ksw_end (Rd.e _, _) (by k_asm) N9' (by walk_at "m_sub") trivial (by walk_at "m_all") (by walk_at "m_sameW") (hE.step (by intro q; dsimp only [gi] at q; omega) (by rw [hr]; rfl) ⟨by omega, by omega⟩) (by dsimp only; omega))
              | (rename rd _ _ _ _ = none => hr
                 exact fin_ret ret KG (by k_asm) (news_subN (by k_asm) (by walk_at "m_sub")) (.inl ⟨(rd_L (by assumption) hT').trans (rdL_c0 (by assumption) (by assumption) (hE.none (by intro q; dsimp only [gi] at q; omega) (by rw [hr]; rfl))), rfl, rfl⟩))
              | skip
            · rename News _ _ _ _ => N9'
              exact fin_ret ret KG (by k_asm) (news_sub N9' (by walk_at "m_sub")) (.inr ⟨_, _, _, _, _, _, _, _, _, (rd_L (by assumption) hT').trans (rdL_c (by assumption) (by assumption) (by assumption) (hE.here (by omega) (by assumption) (by assumption))), rfl, (by omega), rfl⟩)
          · exact fin_ret ret KG (by k_asm) (news_subN (by k_asm) (by walk_at "m_sub")) (.inl ⟨(rd_L (by assumption) (hTt (by assumption) (by assumption))).trans (rdL_d (by assumption) (by assumption) (by assumption) (by assumption)), rfl, rfl⟩)
          · rename News _ _ _ _ => N2
            rename Fr _ _ _ _ => F2
            rename IntsAre _ _ => hI2
            show wpAny _ _ _ _ _ _
            have hT' : rdT bs W x = some _ := (hTt (by assumption) (by assumption))
            refine for_ints (σ := Int × Tok) (fun _ => [(_, listOf _ _), (l9, lsO ws nw), (ro, lsO vs nr)]) (fun c => [(Str.ofString "size", .int c.1 c.2)]) [] (fun pre c => c.1 = foldS pre) (0, _) rfl hI2 (fun _ => .head _) F2 N2 (by walk_at "m_all") rfl ?_ ?_
            · clear F2 N2
              rintro pre n t ⟨z, tz⟩ u h tk' I oI hn hP hne F N
              dsimp only at hP hne F N ⊢
              simp only [NeAll, and_true] at hne
              k_steps
              dsimp only [ForPost]
              rename News _ _ _ _ => N9'
              exact for_end (_, _) (by k_asm) N9' (by k_mem) (by walk_at "m_sub") (by walk_at "m_ne") (by walk_at "m_all") (by walk_at "m_same") (by dsimp only; rw [foldS_snoc, hP])
            · clear F2 N2
              rintro ⟨z, tz⟩ u h tk' hP F N
              dsimp only at hP F N ⊢
              have hz : z = foldS ((bs.drop (y + 1).toNat).take (gi bs (y) - 128).toNat) := hP.trans (by congr 1; congr 1; dsimp only [gi]; omega)
              k_steps
              all_goals (try dsimp only)
              · exact fin_ret ret KG (by k_asm) (news_subN (by k_asm) (by walk_at "m_sub")) (.inl ⟨(rd_L (by assumption) hT').trans (rdL_e (by assumption) (by assumption) (by assumption) (by assumption) hz (by assumption)), rfl, rfl⟩)
              · rename News _ _ _ _ => N9'
                exact fin_ret ret KG (by k_asm) (news_sub N9' (by walk_at "m_sub")) (.inr ⟨_, _, _, _, _, _, _, _, _, (rd_L (by assumption) hT').trans (rdL_f (by assumption) (by assumption) (by assumption) (by assumption) hz (by assumption)), rfl, (by omega), rfl⟩)
          · exact fin_ret ret KG (by k_asm) (news_subN (by k_asm) (by walk_at "m_sub")) (.inl ⟨(rd_L (by assumption) (hTt (by assumption) (by assumption))).trans (rdL_g (by assumption) (by assumption) (by assumption) (by assumption)), rfl, rfl⟩)
          · rename News _ _ _ _ => N9'
            exact fin_ret ret KG (by k_asm) (news_sub N9' (by walk_at "m_sub")) (.inr ⟨_, _, _, _, _, _, _, _, _, (rd_L (by assumption) (hTt (by assumption) (by assumption))).trans (rdL_h (by assumption) (by assumption) (by assumption) (by assumption)), rfl, (by omega), rfl⟩)
  · exact fin_ret ret KG (by k_asm) (news_subN (by k_asm) (by walk_at "m_sub")) (.inl ⟨(rd_L (by assumption) (rdT_plain (by assumption))).trans (rdL_a (by assumption)), rfl, rfl⟩)
  · exact fin_ret ret KG (by k_asm) (news_subN (by k_asm) (by walk_at "m_sub")) (.inl ⟨(rd_L (by assumption) (rdT_plain (by assumption))).trans (rdL_b (by assumption) (by assumption) (by assumption)), rfl, rfl⟩)
  · rename News _ _ _ _ => N2
    rename Fr _ _ _ _ => F2
    show wpAny _ _ _ _ _ _
    have hT' : rdT bs W x = some _ := (rdT_plain (by assumption))
    refine ksw_while (σ := Int × Tok) (fun _ => [(ro, lsO vs nr)]) (fun c => [(Str.ofString "walk", .int c.1 c.2)]) (fun _ => True) [Str.ofString "inner"] (fun c => EndInv bs W (fun y => (rd bs W k y).map (·.e)) (x + 1 + 1) c.1) (fun c => (W + 1 - c.1).toNat) (x + 1 + 1, _) F2 (news_sub N2 (by walk_at "m_sub")) trivial (by walk_at "m_all") (.start (by omega) (by omega)) ?_
    rintro ⟨z, tz⟩ u h tk' _ hE F N
    dsimp only at hE F N ⊢
    have hz1 := hE.1
    have hz2 := hE.2.1
    clear N2 F2
    k_steps
    all_goals (try dsimp only)
    all_goals first
      | (rename rd _ _ _ _ = some _ => hr
         show KswEnd _ _ _ _ _ _ _ _ _ _ _ _
         have hb := rd_bounds hB hW (by omega) hr
         rename News _ _ _ _ => N9'
         refine ksw_end (Rd.e _, _) (by k_asm) N9' (by walk_at "m_sub") trivial (by walk_at "m_all") (by walk_at "m_sameW") (hE.step (by intro q; dsimp only [gi] at q; omega) (by rw [hr]; rfl) ⟨by omega, by omega⟩) (by dsimp only; omega))
      | (rename rd _ _ _ _ = none => hr
         exact fin_ret ret KG (by k_asm) (news_subN (by k_asm) (by walk_at "m_sub")) (.inl ⟨(rd_L (by assumption) hT').trans (rdL_c0 (by assumption) (by assumption) (hE.none (by intro q; dsimp only [gi] at q; omega) (by rw [hr]; rfl))), rfl, rfl⟩))
      | skip
    · rename News _ _ _ _ => N9'
      exact fin_ret ret KG (by k_asm) (news_sub N9' (by walk_at "m_sub")) (.inr ⟨_, _, _, _, _, _, _, _, _, (rd_L (by assumption) hT').trans (rdL_c (by assumption) (by assumption) (by assumption) (hE.here (by omega) (by assumption) (by assumption))), rfl, (by omega), rfl⟩)
  · exact fin_ret ret KG (by k_asm) (news_subN (by k_asm) (by walk_at "m_sub")) (.inl ⟨(rd_L (by assumption) (rdT_plain (by assumption))).trans (rdL_d (by assumption) (by assumption) (by assumption) (by assumption)), rfl, rfl⟩)
  · rename News _ _ _ _ => N2
    rename Fr _ _ _ _ => F2
    rename IntsAre _ _ => hI2
    show wpAny _ _ _ _ _ _
    have hT' : rdT bs W x = some _ := (rdT_plain (by assumption))
    refine for_ints (σ := Int × Tok) (fun _ => [(_, listOf _ _), (ro, lsO vs nr)]) (fun c => [(Str.ofString "size", .int c.1 c.2)]) [] (fun pre c => c.1 = foldS pre) (0, _) rfl hI2 (fun _ => .head _) F2 N2 (by walk_at "m_all") rfl ?_ ?_
    · clear F2 N2
      rintro pre n t ⟨z, tz⟩ u h tk' I oI hn hP hne F N
      dsimp only at hP hne F N ⊢
      simp only [NeAll, and_true] at hne
      k_steps
      dsimp only [ForPost]
      rename News _ _ _ _ => N9'
      exact for_end (_, _) (by k_asm) N9' (by k_mem) (by walk_at "m_sub") (by walk_at "m_ne") (by walk_at "m_all") (by walk_at "m_same") (by dsimp only; rw [foldS_snoc, hP])
    · clear F2 N2
      rintro ⟨z, tz⟩ u h tk' hP F N
      dsimp only at hP F N ⊢
      have hz : z = foldS ((bs.drop (x + 1 + 1).toNat).take (gi bs (x + 1) - 128).toNat) := hP.trans (by congr 1; congr 1; dsimp only [gi]; omega)
      k_steps
      all_goals (try dsimp only)
      · exact fin_ret ret KG (by k_asm) (news_subN (by k_asm) (by walk_at "m_sub")) (.inl ⟨(rd_L (by assumption) hT').trans (rdL_e (by assumption) (by assumption) (by assumption) (by assumption) hz (by assumption)), rfl, rfl⟩)
      · rename News _ _ _ _ => N9'
        exact fin_ret ret KG (by k_asm) (news_sub N9' (by walk_at "m_sub")) (.inr ⟨_, _, _, _, _, _, _, _, _, (rd_L (by assumption) hT').trans (rdL_f (by assumption) (by assumption) (by assumption) (by assumption) hz (by assumption)), rfl, (by omega), rfl⟩)
  · exact fin_ret ret KG (by k_asm) (news_subN (by k_asm) (by walk_at "m_sub")) (.inl ⟨(rd_L (by assumption) (rdT_plain (by assumption))).trans (rdL_g (by assumption) (by assumption) (by assumption) (by assumption)), rfl, rfl⟩)
  · rename News _ _ _ _ => N9'
    exact fin_ret ret KG (by k_asm) (news_sub N9' (by walk_at "m_sub")) (.inr ⟨_, _, _, _, _, _, _, _, _, (rd_L (by assumption) (rdT_plain (by assumption))).trans (rdL_h (by assumption) (by assumption) (by assumption) (by assumption)), rfl, (by omega), rfl⟩)
theorem read_spec : ∀ k : Nat, k ≤ 11 → ReadC prog w mean mg mb k
  | 0, _ => read0
  | k + 1, h => readS k (by omega) (read_spec k (by omega))
end

section
local macro_rules | `(tactic| kpt_hd) => `(tactic| assumption)
local macro_rules | `(tactic| kpt_len) => `(tactic| assumption)
variable {prog : Program} {w : World} {A : Around} {E : Value → Shared → Prop} {s : Shared} {h₀ : Heap} {L a : Addr} {news : List (Addr × Obj)} {t u v : Tok} {i j : Int} {Q : Value → Shared → Prop}
abbrev tupO (its : List Value) : Obj := { cls := .type "tuple", data := .seq its.toArray }
set_option maxHeartbeats 4000000 in
theorem msg_K0 (N : News h₀ L s.heap news) (hb : (a, tupO [.int i u, .int j v]) ∈ news) (hi : i.natAbs.log2 < 1920) (hj : j.natAbs.log2 < 1920) (hli : (PySem.Str.ofString (toString i)).length ≤ 1000) (hlj : (PySem.Str.ofString (toString j)).length ≤ 1000)
    (h : ∀ T t' k, Q (.str T t') { s with toks := k }) : wpAny (model prog w) A (binaryOp .Mod (.str (Str.ofString "Insufficient data - %s bytes requested but only %s available") t) (.ref a)) Q E s := by
  k_dflt (refine' KPt.mod_tuple ?kptN ?kptb ?kptF ?kptm ?_; (case kptN => exact N); (case kptb => exact hb); (case kptF => kpt_eq); (case kptm => kpt_run))
  exact fun t' k => h _ t' k
end

section
variable {prog : Program} {w : World} {mean : ExcName → Option Value} {mg mb : Str → Option Value}
theorem fb_grown {M : Model} {A : Around} {E : Value → Shared → Prop} {s : Shared} {n : Nat} {Q : Value → Shared → Prop} (hn : n < 2 ^ 1700) (h : Q (.int (n : Int) s.toks) { s with toks := s.toks + 1 }) : wpAny M A (mkIntGrown (n : Int)) Q E s := by
  unfold mkIntGrown
  have hl : ¬ ((n : Int).natAbs.log2 ≥ bitsLine) := by
    rw [Int.natAbs_natCast]
    have hb : bitsLine = 134217728 := by first | rfl | decide
    by_cases hz : n = 0
    · subst hz
      rw [hb]
      decide
    · have h1 := (Nat.log2_lt hz).mpr hn
      omega
  rw [if_neg hl]
  exact wpAny_mkInt h
theorem fb_lt {b : Array UInt8} (hl : b.size ≤ 200) : b.toList.foldl (fun (acc : Nat) (b : UInt8) => acc * 256 + b.toNat) 0 < 2 ^ 1700 := by
  have h1 := KFB.fold_lt b.toList 0
  rw [Nat.zero_add, Nat.one_mul, Array.length_toList] at h1
  exact Nat.lt_of_lt_of_le h1 (Nat.le_trans (Nat.pow_le_pow_right (by decide) hl) (by decide +kernel))
theorem fb_tree {M : Model} {A : Around} {E : Value → Shared → Prop} {s : Shared} {b : Array UInt8} {t u : Tok} {P : PySem.Fin → Shared → Prop} (hl : b.size ≤ 200) (h : P (.done (.ret (.int (KFB.value (KBw.bInts b)) s.toks))) { s with toks := s.toks + 1 }) :
    wpAny M A (Builtin.«int.from_bytes» ⟨[.type "int", .bytes b t, .str (PySem.Str.ofString "big") u], [(Str.ofString "signed", .bool false)]⟩) P E s := by
  have hv : ((b.toList.foldl (fun (acc : Nat) (b : UInt8) => acc * 256 + b.toNat) 0 : Nat) : Int) = KFB.value (KBw.bInts b) := KFB.fold_cast b.toList 0
  unfold Builtin.«int.from_bytes»
  refine wpAny_bind (wpAny_of_eq (a := true) KFB.type_int ?_)
  refine KFB.if_not rfl ?_
  refine wpAny_bind (wpAny_of_eq (a := true) F.conv_sub_int ?_)
  refine KFB.if_not rfl ?_
  refine wpAny_bind (wpAny_of_eq (a := [some (.bytes b t), some (.str (PySem.Str.ofString "big") u), some (.bool false)]) (by kernel_rfl) ?_)
  refine wpAny_bind (wpAny_of_eq (a := PySem.Str.ofString "big") (by kernel_rfl) ?_)
  refine wpAny_bind (wpAny_of_eq (a := false) rfl ?_)
  refine wpAny_bind (wpAny_of_eq (a := false) (by kernel_rfl) ?_)
  refine wpAny_bind (wpAny_of_eq (a := b) rfl ?_)
  show wpAny _ _ (mkIntGrown (b.toList.foldl (fun (acc : Int) (b : UInt8) => acc * 256 + (b.toNat : Int)) ((0 : Nat) : Int)) >>= fun v => _) _ _ _
  rw [KFB.foldI_eq]
  refine wpAny_bind (fb_grown (fb_lt hl) ?_)
  rw [hv]
  refine KFB.if_so (by decide +kernel) ?_
  exact wpAny_bind (wpAny_pure (wpAny_pure h))
theorem fb_check {b : Array UInt8} {t u : Tok} {o : PySem.Str} : checkBoundCall "int.from_bytes" ⟨[.type "int", .bytes b t, .str o u], [(Str.ofString "signed", .bool false)]⟩ = pure () := by first | kernel_rfl | rfl
theorem fb_call {A : Around} {E : Value → Shared → Prop} {s : Shared} {x : Addr} {b : Array UInt8} {t u : Tok} {Q : Value → Shared → Prop} (ho : KFB.StandsAt x s.heap) (hl : b.size ≤ 200)
    (h : Q (.int (KFB.value (KBw.bInts b)) s.toks) { s with toks := s.toks + 1 }) : wpAny (model prog w) A (call (.ref x) [.bytes b t, .str (Str.ofString "big") u] [(Str.ofString "signed", .bool false)]) Q E s := by
  refine wpAny_call (codeAny_of_tree ?_)
  show wpAny _ A.in1 (callAny (.ref x) ⟨[.bytes b t, .str (Str.ofString "big") u], [(Str.ofString "signed", .bool false)]⟩) _ _ s
  simp only [callAny]
  refine wpAny_bind (wpAny_load ho ?_)
  simp only [KFB.bound, show (Value.type "builtin_function_or_method" == Value.type "method" || Value.type "builtin_function_or_method" == Value.type "builtin_function_or_method" || Value.type "builtin_function_or_method" == Value.type "method-wrapper") = true by decide, if_true]
  refine KFB.if_so (by decide) ?_
  refine wpAny_bind (wpAny_of_eq (a := ()) fb_check ?_)
  refine wpAny_bind (wpAny_pure (wpAny_pure ?_))
  exact ⟨KFB.quiet_fb, codeAny_builtin KFB.entry_fb (fb_tree hl h)⟩
theorem fb_callWith {A : Around} {E : Value → Shared → Prop} {s : Shared} {pos : Pos} {u : Addr} {args : List (Bool × Sem Value)} {x0 : Sem Value} {rest : List (Bool × Sem Value)} {x : Sem Value} {Q : Value → Shared → Prop} (ha : args = (false, x0) :: rest) (hplain : rest.any (·.1) = false)
    (h : wpAny (model prog w) A (spliced args) (fun vs s₁ => wpAny (model prog w) A x (fun v s₂ => KFB.StandsAt u s₂.heap ∧ wpAny (model prog w) A (call (.ref u) vs [(Str.ofString "signed", v)]) Q E s₂) E s₁) E s) :
    wpAny (model prog w) A (callWith pos (.ref u) [] args [(some (Str.ofString "signed"), x)]) Q E s := by
  subst ha
  have h' := wpAny_mono h (fun vs s₁ h₁ => (wpAny_evalAll_cons (Q := fun ks s₂ => KFB.StandsAt u s₂.heap ∧ wpAny (model prog w) A (call (.ref u) vs ([Str.ofString "signed"].zip ks)) Q E s₂) (wpAny_mono h₁ (fun v s₂ h₂ => wpAny_evalAll_nil h₂) fun _ _ x => x))) fun _ _ x => x
  unfold callWith
  refine wpAny_bind (wpAny_holding (wpAny_mono (evalArgs_kw (Q := fun x s₁ => KFB.StandsAt u s₁.heap ∧ wpAny (model prog w) A (call (.ref u) x.pos x.kw) Q E s₁) rfl h') (fun x s₁ h₁ => wpAny_bind (wpAny_standAt ?_)) fun _ _ x => x))
  obtain ⟨ho, hcall⟩ := h₁
  simp only [List.any_cons, hplain, List.any_nil, Bool.or_false, Option.isNone]
  refine wpAny_bind (m := keeperOf (.ref u)) ?_
  unfold keeperOf
  refine wpAny_bind (wpAny_load ho ?_)
  simp only [KFB.bound, show (Value.type "builtin_function_or_method" != Value.type "method") = true by decide, show (Value.type "builtin_function_or_method" == Value.type "builtin_function_or_method" || Value.type "builtin_function_or_method" == Value.type "method-wrapper") = true by decide, if_true]
  refine wpAny_pure ?_
  exact wpAny_bind (wpAny_mono hcall (fun r s₂ hr => wpAny_bind (wpAny_holding (wpAny_point (wpAny_pure hr)))) fun _ _ x => x)
set_option maxHeartbeats 8000000 in
theorem ifb_spec {dp un : Nat} {gd : Option (List Code)} {base : Heap} {envs : List Env} {s : Shared} {Q E : Value → Shared → Prop} {b : Array UInt8} {ks : List Int} {t : Tok} (hb : KBw.bInts b = ks) (hl : ks.length ≤ 200)
   (C : At w mean mg mb (ktA dp un gd envs) base s.heap envs) (hd : dp + 3 < recursionLimit) (hu : un + 8 * 3 + 200 < cLine)
   (ret : ∀ t' h' tk', Kp [] s.heap h' → Q (.int (KFB.value ks) t') { s with heap := h', toks := tk' }) :
   wpAny (model prog w) (ktA dp un gd envs) (call (.ref 22) [.bytes b t] [(Str.ofString "signed", .bool false)]) Q E s := by
  refine hc_enter (own := []) C (fun _ h => nomatch h) (by omega) (by k_dflt k_is) (by k_dflt k_is) (fun s hX => by first | exact binds_K hX rfl (by k_dflt k_is) rfl rfl rfl | exact BindsTo.of_eq rfl) (locs rfl) rfl rfl rfl (by decide) ?_
  intro g L h₁ F N B X T KG GS
  dsimp only
  k_steps
  rename News _ _ _ _ => N1
  refine' fb_callWith (args := backTo _ (starEach _ _)) ?h1 ?h2 ?_
  case h1 => rfl
  case h2 => rfl
  k_steps
  refine wpAny_bind ?_
  k_steps
  refine wpAny_bind (wpAny_standAt (wpAny_pure ⟨KFB.at_of N1 (by k_mem), ?_⟩))
  subst hb
  refine fb_call (KFB.at_of N1 (by k_mem)) (by rw [← KBw.ints_length]; exact hl) ?_
  rename Fr _ _ _ _ => F9
  exact ret _ _ _ (fun b o hb' e => F9.keep b o (KG b o hb' e))
theorem use_ifb {b : Array UInt8} {ks : List Int} {t : Tok} 
    {dp un : Nat} {gd : Option (List Code)} {base g : Heap} {envs : List Env} {s : Shared} {Q E : Value → Shared → Prop} {L : Addr} {m : Str → Option Value} {cn : Str} {cs : Scope} {a : Addr} {ccd : Value} {news : List (Addr × Obj)}
    (C : At w mean mg mb (ktA dp un gd envs) base g envs) (F : Fr g L s.heap m) (N : News g L s.heap news) (hk : cs.kind = .function) (hb : KBw.bInts b = ks) (hl : ks.length ≤ 200)
    (hd' : dp + 4 < recursionLimit) (hu : un + 227 < cLine)
    (ret : ∀ t' h' tk', Fr g L h' m → News g L h' news → Q (.int (KFB.value ks) t') { s with heap := h', toks := tk' }) :
    wpAny (model prog w) ((ktA dp un gd envs).deeper (envOf cn cs L a ccd)) (call (.ref 22) [.bytes b t] [(Str.ofString "signed", .bool false)]) Q E s := by
  have B := C.B.push (name := cn) (scope := cs) (a := a) (cd := ccd) F hk
  have hC : At w mean mg mb (ktA (dp + 1) (un + 3) gd (envOf cn cs L a ccd :: envs)) base s.heap (envOf cn cs L a ccd :: envs) := ⟨⟨rfl, B.stays, B.frames⟩, C.X, C.T⟩
  refine ifb_spec (dp := dp + 1) (un := un + 3) hb hl hC hd' hu fun t' h' tk' hK => ?_
  obtain ⟨oL, es, ep, hoL, hLr⟩ := F.ns
  exact ret t' h' tk' ⟨⟨oL, es, ep, hK L oL (fun h => nomatch h) hoL, hLr⟩, fun b o e => hK b o (fun h => nomatch h) (F.keep b o e), F.above⟩
    fun p hp => ⟨hK _ _ (fun h => nomatch h) (N p hp).1, (N p hp).2⟩
end

section
variable {prog : Program} {w : World} {mean : ExcName → Option Value} {mg mb : Str → Option Value}
/-- a small number -/
def Sm (i : Int) : Prop := i.natAbs < 2 ^ 1100
theorem sm_small {i : Int} (h1 : -1000000000 ≤ i) (h2 : i ≤ 1000000000) : Sm i := Nat.lt_of_lt_of_le (show i.natAbs < 2 ^ 64 by omega) (Nat.pow_le_pow_right (by decide) (by decide))
theorem sm_cancel {a v : Int} (h : Sm v) : Sm (a + v - a) := by
  have e : a + v - a = v := by omega
  rw [e]; exact h
theorem sm_fold {ks : List Int} (hB : BytesL ks) (hl : ks.length ≤ 127) : Sm (foldS ks) := by
  have h1 := foldS_lt hB
  have h0 := foldS_nonneg hB
  revert h1 h0
  generalize foldS ks = z
  intro h1 h0
  obtain ⟨m, rfl⟩ := Int.eq_ofNat_of_zero_le h0
  have h2 : m < 256 ^ ks.length := by
    have : ((m : Nat) : Int) < ((256 ^ ks.length : Nat) : Int) := by push_cast; exact h1
    exact Int.ofNat_lt.mp this
  show ((m : Nat) : Int).natAbs < 2 ^ 1100
  rw [Int.natAbs_natCast]
  exact Nat.lt_of_lt_of_le h2 (Nat.le_trans (Nat.pow_le_pow_right (by decide) hl) (by decide +kernel))
theorem use_ifbS {b : Array UInt8} {ks : List Int} {t : Tok} 
    {dp un : Nat} {gd : Option (List Code)} {base g : Heap} {envs : List Env} {s : Shared} {Q E : Value → Shared → Prop} {L : Addr} {m : Str → Option Value} {cn : Str} {cs : Scope} {a : Addr} {ccd : Value} {news : List (Addr × Obj)}
    (C : At w mean mg mb (ktA dp un gd envs) base g envs) (F : Fr g L s.heap m) (N : News g L s.heap news) (hk : cs.kind = .function) (hb : KBw.bInts b = ks) (hB : BytesL ks) (hl : ks.length ≤ 127)
    (hd' : dp + 4 < recursionLimit) (hu : un + 227 < cLine)
    (ret : ∀ z t' h' tk', z = foldS ks → 0 ≤ z → Sm z → Fr g L h' m → News g L h' news → Q (.int z t') { s with heap := h', toks := tk' }) :
    wpAny (model prog w) ((ktA dp un gd envs).deeper (envOf cn cs L a ccd)) (call (.ref 22) [.bytes b t] [(Str.ofString "signed", .bool false)]) Q E s :=
  use_ifb C F N hk hb (by omega) hd' hu fun t' h' tk' F' N' => ret _ t' h' tk' (value_eq ks) (by rw [value_eq]; exact foldS_nonneg hB) (by rw [value_eq]; exact sm_fold hB hl) F' N'
theorem sm_log {i : Int} (h : Sm i) : i.natAbs.log2 < 1920 := by
  by_cases hz : i.natAbs = 0
  · rw [hz]; decide
  · have := (Nat.log2_lt hz).mpr h; omega
theorem sm_len {i : Int} (h : Sm i) : (PySem.Str.ofString (toString i)).length ≤ 1000 := by
  rw [PySem.ofString_length]
  exact Nat.le_trans (int_text_length_le10 (k := 400) (by decide) (Nat.lt_of_lt_of_le h (by decide +kernel))) (by decide)
theorem msg_K {A : Around} {E : Value → Shared → Prop} {s : Shared} {h₀ : Heap} {L a : Addr} {news : List (Addr × Obj)} {t u v : Tok} {i j : Int} {Q : Value → Shared → Prop}
    (N : News h₀ L s.heap news) (hb : (a, tupO [.int i u, .int j v]) ∈ news) (hi : Sm i) (hj : Sm j) (h : ∀ T t' k, Q (.str T t') { s with toks := k }) :
    wpAny (model prog w) A (binaryOp .Mod (.str (Str.ofString "Insufficient data - %s bytes requested but only %s available") t) (.ref a)) Q E s :=
  msg_K0 N hb (sm_log hi) (sm_log hj) (sm_len hi) (sm_len hj) h
abbrev pbinds (b : Array UInt8) (t0 : Tok) (W : Int) (t1 : Tok) (x : Int) (t2 : Tok) (only : Bool) (dep : Int) (t3 : Tok) : List (Str × Value) :=
  [(Str.ofString "encoded_data", .bytes b t0), (Str.ofString "data_len", .int W t1), (Str.ofString "pointer", .int x t2), (Str.ofString "lengths_only", .bool only), (Str.ofString "depth", .int dep t3)]
def PostP (bs : List Int) (W x : Int) (k : Nat) (only : Bool) (r : Value) (own' : List (Addr × Obj)) : Prop :=
  ∃ d, rd bs W k x = some d ∧
    (only = true → ∃ a u5 u6, r = .ref a ∧ own' = [(a, tupO [.int d.c0 u5, .int d.e u6])]) ∧
    (only = false → ∃ (a t : Nat) (b1 b2 b3 : Array UInt8) (u1 u2 u3 u4 u5 u6 u7 : Tok), r = .ref a ∧ a ≠ t ∧ own' = [(a, tupO [.ref t, .int d.e u7]), (t, tupO [.int d.c u1, .int d.m u2, .int d.t u3, .bytes b1 u4, .bytes b2 u5, .bytes b3 u6])] ∧
      KBw.bInts b1 = sl bs x d.c0 ∧ KBw.bInts b2 = sl bs d.c0 d.c1 ∧ KBw.bInts b3 = sl bs d.c1 d.e)
section
variable {A : Around} {E : Value → Shared → Prop} {s : Shared} {a : Int} {t u : Tok} {Q : Value → Shared → Prop}
theorem and31 (h : ∀ t' k, Q (.int (a.fmod 32) t') { s with toks := k }) : wpAny (model prog w) A (binaryOp .BitAnd (.int a t) (.int 31 u)) Q E s :=
  and_int (by rw [bitAnd_m5, ← Int.fmod_eq_emod_of_nonneg a (by decide)]; exact h _ _)
theorem and1 (h : ∀ t' k, Q (.int (a.fmod 2) t') { s with toks := k }) : wpAny (model prog w) A (binaryOp .BitAnd (.int a t) (.int 1 u)) Q E s :=
  and_int (by rw [bitAnd_m1, ← Int.fmod_eq_emod_of_nonneg a (by decide)]; exact h _ _)
theorem and127 (h : ∀ t' k, Q (.int (a % 128) t') { s with toks := k }) : wpAny (model prog w) A (binaryOp .BitAnd (.int a t) (.int 127 u)) Q E s :=
  and_int (by rw [bitAnd_m7]; exact h _ _)
theorem rs5 (h : ∀ t' k, Q (.int (a.fdiv 32) t') { s with toks := k }) : wpAny (model prog w) A (binaryOp .RShift (.int a t) (.int 5 u)) Q E s := rshift_int (by decide) (h _ _)
theorem rs6 (h : ∀ t' k, Q (.int (a.fdiv 64) t') { s with toks := k }) : wpAny (model prog w) A (binaryOp .RShift (.int a t) (.int 6 u)) Q E s := rshift_int (by decide) (h _ _)
theorem rs7 (h : ∀ t' k, Q (.int (a / 128) t') { s with toks := k }) : wpAny (model prog w) A (binaryOp .RShift (.int a t) (.int 7 u)) Q E s :=
  rshift_int (by decide) (by show Q (.int (a.fdiv 128) s.toks) _; rw [Int.fdiv_eq_ediv_of_nonneg a (by decide)]; exact h _ _)
theorem slice_B {h₀ : Heap} {L : Addr} {m : Str → Option Value} {news : List (Addr × Obj)} {value slice : PySem.Expr} {b : Array UInt8} {ks : List Int} {lo hi : Int} {tl tu : Tok}
    (hF : Fr h₀ L s.heap m) (hN : News h₀ L s.heap news) (hk : KBw.bInts b = ks) (h0 : 0 ≤ lo) (h1 : lo ≤ hi) (h2 : hi ≤ ks.length) (hz : ks.length ≤ 16777216)
    (h : ∀ h' b' t' k, Fr h₀ L h' m → News h₀ L h' news → KBw.bInts b' = sl ks lo hi → Q (.bytes b' t') { s with heap := h', toks := k })
    (hs : subscripted slice false (.bytes b t) (.ref s.heap.objs.size) = operate [.ref s.heap.objs.size, .bytes b t] (getItem (.bytes b t) (.ref s.heap.objs.size)) := by with_unfolding_all rfl)
    (ht : ∀ r, letTemporaryGo value (.bytes b t) r = pure () := by intro _; with_unfolding_all rfl) :
    wpAny (model prog w) A (subscriptTail value slice (.bytes b t) (.ref s.heap.objs.size)) Q E { s with heap := s.heap.push { cls := .type "slice", data := .fields #[.int lo tl, .int hi tu, .none] } } := by
  refine KBc.slice_K (lo := some lo) (hi := some hi) hF hN hk (by constructor) (by constructor) hz (fun h' t' k F N e => h h' _ t' k F N ?_) hs ht
  rw [e]
  simp only [Option.elim]
  rw [clipAt_in h0 (by omega), clipAt_in (by omega) h2]
  unfold sl
  congr 1
  omega
end
/-- the contract of _parse, k levels left -/
def ParseC (prog : Program) (w : World) (mean : ExcName → Option Value) (mg mb : Str → Option Value) (k : Nat) : Prop :=
  ∀ (args : List Value) (kw : List (Str × Value)) (b : Array UInt8) (bs : List Int) (W x dep : Int) (only : Bool) (t0 t1 t2 t3 : Tok), KBw.bInts b = bs → BytesL bs → bs.length ≤ 1000 → 0 ≤ W → W ≤ bs.length → 0 ≤ x → x ≤ 3000 → 0 ≤ dep → dep ≤ 100 → (11 - dep).toNat = k →
   (∀ (s : Shared) (fd : FuncData) oc od osl, (hd.heap_39 w.params).lookup 30 = some ⟨oc, od, .func fd, osl⟩ → (hd.heap_39 w.params).In s.heap → BindsTo s fd ⟨args, kw⟩ (pbinds b t0 W t1 x t2 only dep t3)) →
   HCk prog w mean mg mb (3 + k) 30 args kw [] (PostP bs W x k only) (rd bs W k x = none)
end
section
variable {prog : Program} {w : World} {mean : ExcName → Option Value} {mg mb : Str → Option Value}
theorem raised_base {base B : Heap} {l : List Env} {e t : Addr} {cls : Value} {vs : List Value} {h : Heap} (k : base.StaysIn B) (R : RaisedK B l e cls t vs [] h) : RaisedK base l e cls t vs [] h := by
  obtain ⟨⟨B', hB, hl, hfl, hnew⟩, htup⟩ := R
  exact ⟨⟨B', fun b o q => hB b o (k b o q), fun _ h => (nomatch h), hfl, hnew⟩, htup⟩
/-- what a call of _parse takes -/
def PBind (w : World) (args : List Value) (kw : List (Str × Value)) (binds : List (Str × Value)) : Prop :=
  ∀ (s : Shared) (fd : FuncData) oc od osl, (hd.heap_39 w.params).lookup 30 = some ⟨oc, od, .func fd, osl⟩ → (hd.heap_39 w.params).In s.heap → BindsTo s fd ⟨args, kw⟩ binds
theorem use_parse {k : Nat} (IH : ParseC prog w mean mg mb k) {args : List Value} {kw : List (Str × Value)} {b : Array UInt8} {bs : List Int} {W x dep : Int} {only : Bool} {t0 t1 t2 t3 : Tok} (hbind : PBind w args kw (pbinds b t0 W t1 x t2 only dep t3))
    {dp un : Nat} {gd : Option (List Code)} {base g : Heap} {envs : List Env} {s : Shared} {Q E : Value → Shared → Prop} {L : Addr} {m : Str → Option Value} {cn : Str} {cs : Scope} {a : Addr} {ccd : Value} {news : List (Addr × Obj)}
    (C : At w mean mg mb (ktA dp un gd envs) base g envs) (F : Fr g L s.heap m) (N : News g L s.heap news) (hk : cs.kind = .function)
    (hb : KBw.bInts b = bs) (hB : BytesL bs) (hl : bs.length ≤ 1000) (hW0 : 0 ≤ W) (hW : W ≤ bs.length) (hx0 : 0 ≤ x) (hx1 : x ≤ 3000) (hd0 : 0 ≤ dep) (hd9 : dep ≤ 100) (hdk : (11 - dep).toNat = k)
    (hd' : dp + 1 + (3 + k) < recursionLimit) (hu : un + 3 + 8 * (3 + k) + 200 < cLine)
    (retS : ∀ r own' h' tk', PostP bs W x k only r own' → (∀ p ∈ own', ∀ q ∈ news, q.1 ≠ p.1) → Fr g L h' m → News g L h' (own' ++ news) → Q r { s with heap := h', toks := tk' })
    (retR : ∀ e t vs h' tk', rd bs W k x = none → RaisedK base (envOf cn cs L a ccd :: envs) e (.type "ValueError") t vs [] h' → s.heap.UpToSlots h' → E (.ref e) { s with heap := h', toks := tk' }) :
    wpAny (model prog w) ((ktA dp un gd envs).deeper (envOf cn cs L a ccd)) (call (.ref 30) args kw) Q E s := by
  refine hc_use0 (IH args kw b bs W x dep only t0 t1 t2 t3 hb hB hl hW0 hW hx0 hx1 hd0 hd9 hdk hbind) C F N hk hd' hu (fun r own' h' tk' F' N' hn P => retS r own' h' tk' P hn F' N') (fun e t vs h' tk' hz R U => retR e t vs h' tk' hz (raised_base ?_ R) U)
  have B := C.B.push (name := cn) (scope := cs) (a := a) (cd := ccd) F hk
  exact fun b o e => hideAll_get _ (B.stays b o e) fun q => by
    rw [(B.frames.mem q).1] at e; cases e
theorem bind_of {args : List Value} {kw binds : List (Str × Value)} {oc : Value} {od : Option Addr} {fd : FuncData} {osl : Array (Option Value)} (e : (hd.heap_39 w.params).lookup 30 = some ⟨oc, od, .func fd, osl⟩)
    (h : ∀ s : Shared, (hd.heap_39 w.params).In s.heap → BindsTo s fd ⟨args, kw⟩ binds) : PBind w args kw binds := fun s fd' oc' od' osl' hl hX => by
  rw [e] at hl
  cases hl
  exact h s hX
theorem bind_rec {b : Array UInt8} {W x dep : Int} {only : Bool} {t0 t1 t2 t3 : Tok} : PBind w [.bytes b t0, .int W t1, .int x t2] [(Str.ofString "lengths_only", .bool only), (Str.ofString "depth", .int dep t3)] (pbinds b t0 W t1 x t2 only dep t3) := by
  refine' bind_of ?e ?h
  case e => k_dflt k_is
  case h => exact fun s hX => by first | exact binds_K hX rfl (by k_dflt k_is) rfl rfl rfl | exact BindsTo.of_eq rfl
theorem bind_5 {b : Array UInt8} {W x dep : Int} {only : Bool} {t0 t1 t2 t3 : Tok} : PBind w [.bytes b t0, .int W t1, .int x t2, .bool only, .int dep t3] [] (pbinds b t0 W t1 x t2 only dep t3) := by
  refine' bind_of ?e ?h
  case e => k_dflt k_is
  case h => exact fun s hX => by first | exact binds_K hX rfl (by k_dflt k_is) rfl rfl rfl | exact BindsTo.of_eq rfl
theorem bind_3 {b : Array UInt8} {W x : Int} {t0 t1 t2 : Tok} : PBind w [.bytes b t0, .int W t1, .int x t2] [] (pbinds b t0 W t1 x t2 false 0 205) := by
  refine' bind_of ?e ?h
  case e => k_dflt k_is
  case h => exact fun s hX => binds_K hX rfl (by k_dflt k_is) rfl rfl rfl
end
theorem ints_inj {b c : Array UInt8} (h : KBw.bInts b = KBw.bInts c) : b = c := by
  apply Array.toList_inj.mp
  unfold KBw.bInts at h
  refine (List.map_inj_right fun x y e => ?_).mp h
  exact UInt8.toNat_inj.mp (Int.ofNat.inj e)
theorem two_ne {b : Array UInt8} {u v : Int} (h : KBw.bInts b = [u, v]) (hn : (b.toList != #[0, 0].toList) = true) : ¬ (u = 0 ∧ v = 0) := by
  rintro ⟨rfl, rfl⟩
  have : b = #[0, 0] := ints_inj (h.trans (show [0, 0] = KBw.bInts #[0, 0] from rfl))
  subst this
  exact absurd hn (by decide)
theorem two_eq {b : Array UInt8} {u v : Int} (h : KBw.bInts b = [u, v]) (hn : (b.toList != #[0, 0].toList) = false) : u = 0 ∧ v = 0 := by
  have : b.toList = #[0, 0].toList := by simpa using hn
  have : b = #[0, 0] := Array.toList_inj.mp this
  subst this
  have : [(0 : Int), 0] = [u, v] := h
  simp at this
  exact ⟨this.1.symm, this.2.symm⟩
theorem tail_eq {bs : List Int} {z : Int} (h1 : gi bs z = 0) (h2 : gi bs (z + 1) = 0) (h0 : 0 ≤ z) (hl : z + 2 ≤ bs.length) : KBw.bInts #[0, 0] = sl bs z (z + 2) := by
  rw [sl_two h0 hl, h1, h2]; rfl
--MACRO
local macro_rules | `(tactic| walk_at "m_om") => `(tactic| first | omega | (simp only [List.size_toArray, List.length_nil, List.length_cons]; omega))
local macro_rules | `(tactic| walk_at "m_sm") => `(tactic| first | assumption | exact sm_cancel (by assumption) | exact sm_small (by omega) (by omega))
local macro_rules | `(tactic| walk_at "binaryOp Mod str ref") => `(tactic| (k_here; (with_reducible show wpAny _ _ (binaryOp Operator.Mod (Value.str _ _) (Value.ref _)) _ _ _); k_dflt (refine' msg_K ?N ?hb ?s1 ?s2 ?_; (case N => k_asm); (case hb => k_mem); (case s1 => walk_at "m_sm"); (case s2 => walk_at "m_sm")); intro T' t' k'))
local macro_rules | `(tactic| walk_at "binaryOp BitAnd int int") => `(tactic| ((with_reducible show wpAny _ _ (binaryOp Operator.BitAnd _ _) _ _ _); (first | with_reducible refine and31 ?_ | with_reducible refine and1 ?_ | with_reducible refine and127 ?_); intro t' k'; (try dsimp only)))
local macro_rules | `(tactic| walk_at "binaryOp RShift int int") => `(tactic| ((with_reducible show wpAny _ _ (binaryOp Operator.RShift _ _) _ _ _); (first | with_reducible refine rs5 ?_ | with_reducible refine rs6 ?_ | with_reducible refine rs7 ?_); intro t' k'; (try dsimp only)))
local macro_rules | `(tactic| walk_at "subscriptTail") => `(tactic| (k_here; (with_reducible show wpAny _ _ (subscriptTail _ (Expr.Slice _ _ none _) (Value.bytes _ _) (Value.ref _)) _ _ _); (with_reducible rename Fr _ _ _ _ => F'); (with_reducible rename News _ _ _ _ => N'); (refine slice_B (s := ⟨_, _, _, _, _⟩) F' N' (by kba_ints) (by walk_at "m_om") (by walk_at "m_om") (by walk_at "m_om") (by omega) ?_); intro h' b' t' k' F' N' kbcK; (try k_sweep)))
local macro_rules | `(tactic| walk_at "exec Raise some none") => `(tactic| (k_here; (with_reducible show wpAny _ _ (exec (Stmt.Raise (some (Expr.Call (Expr.Name _ _) (_ :: _) [] _)) none _) _) _ _ _); top_raiseB))
local macro_rules | `(tactic| walk_at "leaving ref") => `(tactic| (k_here; (refine' leave_raiseK (news := []) ?k1 ?k0 ?k2 News.nil ?_; (case k0 => first | assumption | exact Heap.MadeExc.of (by assumption)); (case k1 => assumption); (case k2 => assumption)); intro h' t' R' U'; (try dsimp only at R' U' ⊢)))
local macro_rules | `(tactic| walk_at "m_leave") => `(tactic| (refine' leave_onK ?k1 ?k2 ?k3 ?k4 ?_; (case k3 => assumption); (case k1 => assumption); (case k4 => assumption); (case k2 => assumption); intro h' R' U'; (try dsimp only at R' U' ⊢)))
local macro_rules | `(tactic| walk_at "m_ifb") => `(tactic| (
  (with_reducible show wpAny _ _ (call (Value.ref 22) _ _) _ _ _);
  k_dflt (refine' use_ifbS ?C ?F ?N ?hk ?b ?bb ?l ?hd ?hu ?_; (case C => k_asm); (case F => k_asm); (case N => k_asm); (case hk => rfl); (case b => assumption); (case bb => exact sl_bytes (by assumption) _ _); (case l => exact Nat.le_trans (sl_len _ _ _) (by omega)); (case hd => omega); (case hu => omega));
  intro z' t' h' tk' hz' hz0' hsm' F' N'; (try dsimp only); (try k_fold); (try k_sweep)))
local macro_rules | `(tactic| walk_at "m_nq") => `(tactic| (intro q; (try dsimp only [gi] at q); omega))
local macro_rules | `(tactic| walk_at "m_sl") => `(tactic| ((try dsimp only [gi]); first | assumption | exact tail_eq (by assumption) (by assumption) (by omega) (by omega) | exact (show KBw.bInts #[] = [] from rfl).trans (sl_nil _ _).symm | (refine' Eq.trans ?p ?q; (case p => assumption); (case q => ((try dsimp only); congr 1 <;> ((try simp only [List.size_toArray, List.length_nil, List.length_cons]); omega))))))
local macro_rules | `(tactic| walk_at "m_parse") => `(tactic| (
  (with_reducible show wpAny _ _ (call (Value.ref 30) _ _) _ _ _);
  (with_reducible rename ParseC _ _ _ _ _ _ => IH');
  k_dflt (refine' use_parse IH' ?bd ?C ?F ?N ?hk ?b ?bb ?l1 ?l2 ?l3 ?l4 ?l5 ?l6 ?l7 ?l8 ?hd ?hu ?rS ?rR; (case bd => first | exact bind_rec | exact bind_5); (case C => k_asm); (case F => k_asm); (case N => k_asm); (case hk => rfl); (case b => assumption); (case bb => k_asm); (case l1 => omega); (case l2 => omega); (case l3 => omega); (case l4 => omega); (case l5 => omega); (case l6 => omega); (case l7 => omega); (case l8 => omega); (case hd => omega); (case hu => omega));
  (case' rS => (intro r' own' h' tk' hP' hn' F' N'; (obtain ⟨d', hr', hPt', hPf'⟩ := hP'; clear hPf' hn'); (obtain ⟨a', u5', u6', hra', hro'⟩ := hPt' rfl; clear hPt'; subst hra' hro'); (simp only [List.cons_append, List.nil_append, List.append_nil] at N'); (try dsimp only); (try k_fold); (try k_sweep)));
  (case' rR => (intro e' t' vs' h' tk' hr' R' U'; (try dsimp only); walk_at "m_leave"))))
local macro_rules | `(tactic| walk_at "call ref") => `(tactic| first | walk_at "m_take" | walk_at "m_some" | walk_at "m_first" | walk_at "m_sized" | walk_at "m_grow" | walk_at "m_read" | walk_at "m_ifb" | walk_at "m_parse")
--END
--GEN
section
variable {prog : Program} {w : World} {mean : ExcName → Option Value} {mg mb : Str → Option Value}
set_option maxHeartbeats 8000000 in
theorem parse0 : ParseC prog w mean mg mb 0 := by
  intro args kw b bs W x dep only t0 t1 t2 t3 hb hB hlen hW0 hW hx0 hx1 hd0 hd9 hdk hbind
  intro dp un gd base envs s Q E C O hd hu ret rz
  refine hc_enter C O (by omega) (by k_dflt k_is) (by k_dflt k_is) (fun s hX => hbind s _ _ _ _ (by k_dflt k_is) hX) (locs rfl) rfl rfl rfl (by decide) ?_
  intro g L h₁ F N B X T KG GS
  have C' : At w mean mg mb (ktA dp un gd envs) base g envs := ⟨B, C.X, C.T⟩
  (try dsimp only)
  have US : s.heap.UpToSlots g := Heap.UpToSlots.of_keeps fun b o e => KG b o (fun h => nomatch h) e
  have hdd : 10 < dep := by omega
  k_steps
  all_goals (try dsimp only)
  exact rz _ _ _ _ _ (rfl) (by assumption) (US.trans (by assumption))
set_option maxHeartbeats 8000000 in
theorem parseS (k : Nat) (hk : k ≤ 10) (IH : ParseC prog w mean mg mb k) : ParseC prog w mean mg mb (k + 1) := by
  intro args kw b bs W x dep only t0 t1 t2 t3 hb hB hlen hW0 hW hx0 hx1 hd0 hd9 hdk hbind
  intro dp un gd base envs s Q E C O hd hu ret rz
  refine hc_enter C O (by omega) (by k_dflt k_is) (by k_dflt k_is) (fun s hX => hbind s _ _ _ _ (by k_dflt k_is) hX) (locs rfl) rfl rfl rfl (by decide) ?_
  intro g L h₁ F N B X T KG GS
  have C' : At w mean mg mb (ktA dp un gd envs) base g envs := ⟨B, C.X, C.T⟩
  (try dsimp only)
  have US : s.heap.UpToSlots g := Heap.UpToSlots.of_keeps fun b o e => KG b o (fun h => nomatch h) e
  have hdd : ¬ (10 < dep) := by omega
  k_steps
  all_goals (try dsimp only)
  · exact rz _ _ _ _ _ (rd_a (by omega)) (by assumption) (US.trans (by assumption))
  · rename News _ _ _ _ => N2
    rename Fr _ _ _ _ => F2
    show wpAny _ _ _ _ _ _
    have hx31 : (gi bs x).fmod 32 = 31 := by assumption
    refine ksw_while (σ := List Int × Int × Int × Tok × Tok) (fun _ => []) (fun c => [(Str.ofString "pointer", .int c.2.1 c.2.2.2.1), (Str.ofString "tag", .int c.2.2.1 c.2.2.2.2)]) (fun _ => True) [Str.ofString "num"] (fun c => TagGo bs W (x + 1) c.1 c.2.1 c.2.2.1) (fun c => (W + 1 - c.2.1).toNat) ([], x + 1, 0, _, _) F2 (news_sub N2 (by walk_at "m_sub")) trivial (by walk_at "m_all") (.start (by omega)) ?_
    rintro ⟨ds, y, z, ty, tz⟩ u h tk' _ hD F N
    dsimp only at hD F N ⊢
    clear N2 F2
    have hy1 := hD.1
    have hy2 := hD.2.1
    have hz0 : 0 ≤ z := by rw [hD.2.2.2.2.2.1]; exact foldT_nonneg _
    k_steps
    all_goals (try dsimp only)
    · exact rz _ _ _ _ _ (rd_T (by omega) (rdT_none hx31 (hD.over hW0 (by omega)))) (by assumption) (US.trans (by assumption))
    · exact rz _ _ _ _ _ (rd_T (by omega) (hD.bad hx31 hB hW hx0 (by assumption) (by assumption) (by assumption))) (by assumption) (US.trans (by assumption))
    · exfalso; omega
    · show KswEnd _ _ _ _ _ _ _ _ _ _ _ _
      rename News _ _ _ _ => N9'
      exact ksw_end (ds ++ [gi bs y], y + 1, z * 128 + gi bs y % 128, _, _) (by k_asm) N9' (by walk_at "m_sub") trivial (by walk_at "m_all") (by walk_at "m_sameW") (hD.step hB hW (by omega) (by assumption) (by walk_at "m_nq") (by assumption)) (by dsimp only; omega)
    · exact rz _ _ _ _ _ (rd_T (by omega) (hD.low hx31 hB hW hx0 (by assumption) (by assumption) (by assumption))) (by assumption) (US.trans (by assumption))
    · exact rz _ _ _ _ _ ((rd_L (by omega) (hD.long hx31 hB hW hx0 (by assumption) (by walk_at "m_nq") (by assumption) (by assumption))).trans (rdL_a (by omega))) (by assumption) (US.trans (by assumption))
    · exact rz _ _ _ _ _ ((rd_L (by omega) (hD.long hx31 hB hW hx0 (by assumption) (by walk_at "m_nq") (by assumption) (by assumption))).trans (rdL_gP hB (by omega) (by assumption) (by assumption))) (by assumption) (US.trans (by assumption))
    · exact fin_ret ret KG (by k_asm) (news_subN (by k_asm) (by walk_at "m_sub")) ⟨_, (rd_L (by omega) (hD.long hx31 hB hW hx0 (by assumption) (by walk_at "m_nq") (by assumption) (by assumption))).trans (rdL_hP hB (by omega) (by assumption) (by assumption)), fun _ => ⟨_, _, _, rfl, rfl⟩, fun q => absurd (q.symm.trans (by assumption : only = true)) (by decide)⟩
    · exact fin_ret ret KG (by k_asm) (news_subN (by k_asm) (by walk_at "m_sub")) ⟨_, (rd_L (by omega) (hD.long hx31 hB hW hx0 (by assumption) (by walk_at "m_nq") (by assumption) (by assumption))).trans (rdL_hP hB (by omega) (by assumption) (by assumption)), fun q => absurd ((by assumption : only = false).symm.trans q) (by decide), fun _ => ⟨_, _, _, _, _, _, _, _, _, _, _, _, rfl, (by omega), rfl, (by walk_at "m_sl"), (by walk_at "m_sl"), (by walk_at "m_sl")⟩⟩
    · exact rz _ _ _ _ _ ((rd_L (by omega) (hD.long hx31 hB hW hx0 (by assumption) (by walk_at "m_nq") (by assumption) (by assumption))).trans (rdL_dP hB (by omega) (by assumption) (by assumption) (by assumption))) (by assumption) (US.trans (by assumption))
    · exact rz _ _ _ _ _ ((rd_L (by omega) (hD.long hx31 hB hW hx0 (by assumption) (by walk_at "m_nq") (by assumption) (by assumption))).trans (rdL_eP hB (by omega) (by omega) (by assumption) (by assumption) (by assumption) (by assumption) (by assumption))) (by assumption) (US.trans (by assumption))
    · exact fin_ret ret KG (by k_asm) (news_subN (by k_asm) (by walk_at "m_sub")) ⟨_, (rd_L (by omega) (hD.long hx31 hB hW hx0 (by assumption) (by walk_at "m_nq") (by assumption) (by assumption))).trans (rdL_fP hB (by omega) (by omega) (by assumption) (by assumption) (by assumption) (by assumption) (by assumption)), fun _ => ⟨_, _, _, rfl, rfl⟩, fun q => absurd (q.symm.trans (by assumption : only = true)) (by decide)⟩
    · exact fin_ret ret KG (by k_asm) (news_subN (by k_asm) (by walk_at "m_sub")) ⟨_, (rd_L (by omega) (hD.long hx31 hB hW hx0 (by assumption) (by walk_at "m_nq") (by assumption) (by assumption))).trans (rdL_fP hB (by omega) (by omega) (by assumption) (by assumption) (by assumption) (by assumption) (by assumption)), fun q => absurd ((by assumption : only = false).symm.trans q) (by decide), fun _ => ⟨_, _, _, _, _, _, _, _, _, _, _, _, rfl, (by omega), rfl, (by walk_at "m_sl"), (by walk_at "m_sl"), (by walk_at "m_sl")⟩⟩
    · rename News _ _ _ _ => N2
      rename Fr _ _ _ _ => F2
      show wpAny _ _ _ _ _ _
      have hT' : rdT bs W x = some _ := (hD.long hx31 hB hW hx0 (by assumption) (by walk_at "m_nq") (by assumption) (by assumption))
      refine ksw_while (σ := Int × Tok) (fun _ => []) (fun c => [(Str.ofString "contents_end", .int c.1 c.2)]) (fun _ => True) [Str.ofString "_"] (fun c => EndInv bs W (fun y => (rd bs W k y).map (·.e)) (y + 1 + 1) c.1) (fun c => (W + 1 - c.1).toNat) (y + 1 + 1, _) F2 (news_sub N2 (by walk_at "m_sub")) trivial (by walk_at "m_all") (.start (by omega) (by omega)) ?_
      rintro ⟨z, tz⟩ u h tk' _ hE F N
      dsimp only at hE F N ⊢
      have hz1 := hE.1
      have hz2 := hE.2.1
      clear N2 F2
      k_steps
      all_goals (try dsimp only)
      · exact rz _ _ _ _ _ ((rd_L (by omega) hT').trans (rdL_c0P hB (by omega) (by assumption) (by assumption) (hE.none (by walk_at "m_nq") (by rw [(by assumption : rd bs W k z = none)]; rfl)))) (by assumption) (US.trans (by assumption))
      · rename rd _ _ _ _ = some _ => hr
        show KswEnd _ _ _ _ _ _ _ _ _ _ _ _
        have hb9 := rd_bounds hB hW (by omega) hr
        rename News _ _ _ _ => N9'
        exact ksw_end (Rd.e _, _) (by k_asm) N9' (by walk_at "m_sub") trivial (by walk_at "m_all") (by walk_at "m_sameW") (hE.step (by walk_at "m_nq") (by rw [hr]; rfl) ⟨by omega, by omega⟩) (by dsimp only; omega)
      · have hq := two_ne (Eq.trans (by assumption) (sl_two (by omega) (by omega))) (by assumption)
        exact rz _ _ _ _ _ ((rd_L (by omega) hT').trans (rdL_c0P hB (by omega) (by assumption) (by assumption) (hE.none (fun q => hq q.2) (by rw [(by assumption : rd bs W k z = none)]; rfl)))) (by assumption) (US.trans (by assumption))
      · have hq := two_ne (Eq.trans (by assumption) (sl_two (by omega) (by omega))) (by assumption)
        rename rd _ _ _ _ = some _ => hr
        show KswEnd _ _ _ _ _ _ _ _ _ _ _ _
        have hb9 := rd_bounds hB hW (by omega) hr
        rename News _ _ _ _ => N9'
        exact ksw_end (Rd.e _, _) (by k_asm) N9' (by walk_at "m_sub") trivial (by walk_at "m_all") (by walk_at "m_sameW") (hE.step (fun q => hq q.2) (by rw [hr]; rfl) ⟨by omega, by omega⟩) (by dsimp only; omega)
      · obtain ⟨hq1, hq2⟩ := two_eq (Eq.trans (by assumption) (sl_two (by omega) (by omega))) (by assumption)
        exact fin_ret ret KG (by k_asm) (news_subN (by k_asm) (by walk_at "m_sub")) ⟨_, (rd_L (by omega) hT').trans (rdL_cP hB (by omega) (by assumption) (by assumption) (by assumption) (hE.here (by omega) hq1 hq2)), fun _ => ⟨_, _, _, rfl, rfl⟩, fun q => absurd (q.symm.trans (by assumption : only = true)) (by decide)⟩
      · obtain ⟨hq1, hq2⟩ := two_eq (Eq.trans (by assumption) (sl_two (by omega) (by omega))) (by assumption)
        exact fin_ret ret KG (by k_asm) (news_subN (by k_asm) (by walk_at "m_sub")) ⟨_, (rd_L (by omega) hT').trans (rdL_cP hB (by omega) (by assumption) (by assumption) (by assumption) (hE.here (by omega) hq1 hq2)), fun q => absurd ((by assumption : only = false).symm.trans q) (by decide), fun _ => ⟨_, _, _, _, _, _, _, _, _, _, _, _, rfl, (by omega), rfl, (by walk_at "m_sl"), (by walk_at "m_sl"), (by walk_at "m_sl")⟩⟩
    · exact rz _ _ _ _ _ ((rd_L (by omega) (hD.long hx31 hB hW hx0 (by assumption) (by walk_at "m_nq") (by assumption) (by assumption))).trans (rdL_bP hB (by omega) (by assumption) (by assumption) (by assumption))) (by assumption) (US.trans (by assumption))
    · show KswEnd _ _ _ _ _ _ _ _ _ _ _ _
      rename News _ _ _ _ => N9'
      exact ksw_end (ds ++ [gi bs y], y + 1, z * 128 + gi bs y % 128, _, _) (by k_asm) N9' (by walk_at "m_sub") trivial (by walk_at "m_all") (by walk_at "m_sameW") (hD.step hB hW (by omega) (by assumption) (by walk_at "m_nq") (by assumption)) (by dsimp only; omega)
  · exact rz _ _ _ _ _ ((rd_L (by omega) (rdT_plain (by assumption))).trans (rdL_a (by omega))) (by assumption) (US.trans (by assumption))
  · exact rz _ _ _ _ _ ((rd_L (by omega) (rdT_plain (by assumption))).trans (rdL_gP hB (by omega) (by assumption) (by assumption))) (by assumption) (US.trans (by assumption))
  · exact fin_ret ret KG (by k_asm) (news_subN (by k_asm) (by walk_at "m_sub")) ⟨_, (rd_L (by omega) (rdT_plain (by assumption))).trans (rdL_hP hB (by omega) (by assumption) (by assumption)), fun _ => ⟨_, _, _, rfl, rfl⟩, fun q => absurd (q.symm.trans (by assumption : only = true)) (by decide)⟩
  · exact fin_ret ret KG (by k_asm) (news_subN (by k_asm) (by walk_at "m_sub")) ⟨_, (rd_L (by omega) (rdT_plain (by assumption))).trans (rdL_hP hB (by omega) (by assumption) (by assumption)), fun q => absurd ((by assumption : only = false).symm.trans q) (by decide), fun _ => ⟨_, _, _, _, _, _, _, _, _, _, _, _, rfl, (by omega), rfl, (by walk_at "m_sl"), (by walk_at "m_sl"), (by walk_at "m_sl")⟩⟩
  · exact rz _ _ _ _ _ ((rd_L (by omega) (rdT_plain (by assumption))).trans (rdL_dP hB (by omega) (by assumption) (by assumption) (by assumption))) (by assumption) (US.trans (by assumption))
  · exact rz _ _ _ _ _ ((rd_L (by omega) (rdT_plain (by assumption))).trans (rdL_eP hB (by omega) (by omega) (by assumption) (by assumption) (by assumption) (by assumption) (by assumption))) (by assumption) (US.trans (by assumption))
  · exact fin_ret ret KG (by k_asm) (news_subN (by k_asm) (by walk_at "m_sub")) ⟨_, (rd_L (by omega) (rdT_plain (by assumption))).trans (rdL_fP hB (by omega) (by omega) (by assumption) (by assumption) (by assumption) (by assumption) (by assumption)), fun _ => ⟨_, _, _, rfl, rfl⟩, fun q => absurd (q.symm.trans (by assumption : only = true)) (by decide)⟩
  · exact fin_ret ret KG (by k_asm) (news_subN (by k_asm) (by walk_at "m_sub")) ⟨_, (rd_L (by omega) (rdT_plain (by assumption))).trans (rdL_fP hB (by omega) (by omega) (by assumption) (by assumption) (by assumption) (by assumption) (by assumption)), fun q => absurd ((by assumption : only = false).symm.trans q) (by decide), fun _ => ⟨_, _, _, _, _, _, _, _, _, _, _, _, rfl, (by omega), rfl, (by walk_at "m_sl"), (by walk_at "m_sl"), (by walk_at "m_sl")⟩⟩
  · rename News _ _ _ _ => N2
    rename Fr _ _ _ _ => F2
    show wpAny _ _ _ _ _ _
    have hT' : rdT bs W x = some _ := (rdT_plain (by assumption))
    refine ksw_while (σ := Int × Tok) (fun _ => []) (fun c => [(Str.ofString "contents_end", .int c.1 c.2)]) (fun _ => True) [Str.ofString "_"] (fun c => EndInv bs W (fun y => (rd bs W k y).map (·.e)) (x + 1 + 1) c.1) (fun c => (W + 1 - c.1).toNat) (x + 1 + 1, _) F2 (news_sub N2 (by walk_at "m_sub")) trivial (by walk_at "m_all") (.start (by omega) (by omega)) ?_
    rintro ⟨z, tz⟩ u h tk' _ hE F N
    dsimp only at hE F N ⊢
    have hz1 := hE.1
    have hz2 := hE.2.1
    clear N2 F2
    k_steps
    all_goals (try dsimp only)
    · exact rz _ _ _ _ _ ((rd_L (by omega) hT').trans (rdL_c0P hB (by omega) (by assumption) (by assumption) (hE.none (by walk_at "m_nq") (by rw [(by assumption : rd bs W k z = none)]; rfl)))) (by assumption) (US.trans (by assumption))
    · rename rd _ _ _ _ = some _ => hr
      show KswEnd _ _ _ _ _ _ _ _ _ _ _ _
      have hb9 := rd_bounds hB hW (by omega) hr
      rename News _ _ _ _ => N9'
      exact ksw_end (Rd.e _, _) (by k_asm) N9' (by walk_at "m_sub") trivial (by walk_at "m_all") (by walk_at "m_sameW") (hE.step (by walk_at "m_nq") (by rw [hr]; rfl) ⟨by omega, by omega⟩) (by dsimp only; omega)
    · have hq := two_ne (Eq.trans (by assumption) (sl_two (by omega) (by omega))) (by assumption)
      exact rz _ _ _ _ _ ((rd_L (by omega) hT').trans (rdL_c0P hB (by omega) (by assumption) (by assumption) (hE.none (fun q => hq q.2) (by rw [(by assumption : rd bs W k z = none)]; rfl)))) (by assumption) (US.trans (by assumption))
    · have hq := two_ne (Eq.trans (by assumption) (sl_two (by omega) (by omega))) (by assumption)
      rename rd _ _ _ _ = some _ => hr
      show KswEnd _ _ _ _ _ _ _ _ _ _ _ _
      have hb9 := rd_bounds hB hW (by omega) hr
      rename News _ _ _ _ => N9'
      exact ksw_end (Rd.e _, _) (by k_asm) N9' (by walk_at "m_sub") trivial (by walk_at "m_all") (by walk_at "m_sameW") (hE.step (fun q => hq q.2) (by rw [hr]; rfl) ⟨by omega, by omega⟩) (by dsimp only; omega)
    · obtain ⟨hq1, hq2⟩ := two_eq (Eq.trans (by assumption) (sl_two (by omega) (by omega))) (by assumption)
      exact fin_ret ret KG (by k_asm) (news_subN (by k_asm) (by walk_at "m_sub")) ⟨_, (rd_L (by omega) hT').trans (rdL_cP hB (by omega) (by assumption) (by assumption) (by assumption) (hE.here (by omega) hq1 hq2)), fun _ => ⟨_, _, _, rfl, rfl⟩, fun q => absurd (q.symm.trans (by assumption : only = true)) (by decide)⟩
    · obtain ⟨hq1, hq2⟩ := two_eq (Eq.trans (by assumption) (sl_two (by omega) (by omega))) (by assumption)
      exact fin_ret ret KG (by k_asm) (news_subN (by k_asm) (by walk_at "m_sub")) ⟨_, (rd_L (by omega) hT').trans (rdL_cP hB (by omega) (by assumption) (by assumption) (by assumption) (hE.here (by omega) hq1 hq2)), fun q => absurd ((by assumption : only = false).symm.trans q) (by decide), fun _ => ⟨_, _, _, _, _, _, _, _, _, _, _, _, rfl, (by omega), rfl, (by walk_at "m_sl"), (by walk_at "m_sl"), (by walk_at "m_sl")⟩⟩
  · exact rz _ _ _ _ _ ((rd_L (by omega) (rdT_plain (by assumption))).trans (rdL_bP hB (by omega) (by assumption) (by assumption) (by assumption))) (by assumption) (US.trans (by assumption))
theorem parse_spec : ∀ k : Nat, k ≤ 11 → ParseC prog w mean mg mb k
  | 0, _ => parse0
  | k + 1, h => parseS k (by omega) (parse_spec k (by omega))
end

/-- the heap below a def, read again: the frames of the outer calls carry new slots -/
def rf (g h : Heap) : Heap := hideAll ⟨h.objs.extract 0 g.objs.size, h.life⟩ ((List.range g.objs.size).filter fun b => (g.get? b).isNone)
theorem rf_size (g h : Heap) : (rf g h).objs.size ≤ g.objs.size := by
  unfold rf; rw [hideAll_size, Array.size_extract]; omega
theorem trunc_in {h : Heap} {n b : Nat} (hb : b < n) : (⟨h.objs.extract 0 n, h.life⟩ : Heap).get? b = h.get? b := by
  unfold Heap.get?
  have e : (h.objs.extract 0 n)[b]? = h.objs[b]? := by
    rw [Array.getElem?_extract, Nat.zero_add]
    split
    · rfl
    · rw [Array.getElem?_eq_none]; omega
  rw [e]
theorem trunc_out {h : Heap} {n b : Nat} {o : Obj} (e : (⟨h.objs.extract 0 n, h.life⟩ : Heap).get? b = some o) : b < n := by
  have h1 : @LT.lt Nat _ b (h.objs.extract 0 n).size := Heap.lt_size e
  rw [Array.size_extract] at h1
  omega
theorem rf_of {g h : Heap} {b : Addr} {o : Obj} (e : (rf g h).get? b = some o) : h.get? b = some o ∧ ∃ o', g.get? b = some o' := by
  have e1 := of_hideAll _ e
  have hb := trunc_out e1
  rw [trunc_in hb] at e1
  refine ⟨e1, ?_⟩
  cases q : g.get? b with
  | some o' => exact ⟨o', rfl⟩
  | none =>
    have : (rf g h).get? b = none := hideAll_none _ (List.mem_filter.mpr ⟨List.mem_range.mpr hb, by rw [q]; rfl⟩)
    rw [this] at e; cases e
theorem rf_get {g h : Heap} {b : Addr} {o o' : Obj} (e : h.get? b = some o) (e' : g.get? b = some o') : (rf g h).get? b = some o := by
  have hb : b < g.objs.size := Heap.lt_size e'
  refine hideAll_get _ ((trunc_in hb).trans e) fun q => ?_
  have := (List.mem_filter.mp q).2
  rw [e'] at this; cases this
theorem funFrames_rf {base g h : Heap} : ∀ {l : List Env}, g.FunFrames base l → h.FunFrames base l → (rf g h).FunFrames base l
  | [], _, _ => trivial
  | _ :: _, ⟨_, ⟨L1, o1, f1, _, e1, _⟩, r1⟩, ⟨k2, ⟨L2, o2, f2, n2, e2, d2⟩, r2⟩ => by
    refine ⟨k2, ⟨L2, o2, f2, n2, ?_, d2⟩, funFrames_rf r1 r2⟩
    have : L1 = L2 := Option.some.inj (f1.symm.trans f2)
    rw [this] at e1
    exact rf_get e2 e1
/-- all is kept but the slots of the frames -/
def UpV (envs : List Env) (h h' : Heap) : Prop := (∀ b o, b ∉ envs.filterMap (·.frame) → h.get? b = some o → h'.get? b = some o) ∧ h.UpToSlots h'
theorem UpV.of_keeps {envs : List Env} {h h' : Heap} (k : ∀ b o, h.get? b = some o → h'.get? b = some o) : UpV envs h h' := ⟨fun b o _ => k b o, Heap.UpToSlots.of_keeps k⟩
theorem UpV.trans {envs : List Env} {h h' h'' : Heap} (a : UpV envs h h') (b : UpV envs h' h'') : UpV envs h h'' := ⟨fun x o n e => b.1 x o n (a.1 x o n e), a.2.trans b.2⟩
theorem upV_rf {g h h' : Heap} {envs : List Env} {env : Env} {L : Addr} {m : Str → Option Value} (hf : env.frame = some L) (F : Fr g L h m) (U : UpV (env :: envs) h h') : UpV envs g (rf g h') := by
  refine ⟨fun b o n e => ?_, fun b o e hn => ?_⟩
  · refine rf_get (U.1 b o (fun q => ?_) (F.keep b o e)) e
    rw [List.filterMap_cons, hf] at q
    rcases List.mem_cons.mp q with rfl | q
    · exact absurd (Nat.lt_of_lt_of_le (Heap.lt_size e) F.above) (Nat.lt_irrefl _)
    · exact n q
  · obtain ⟨sl, e2⟩ := U.2 b o (F.keep b o e) hn
    exact ⟨sl, rf_get e2 e⟩
section
variable {prog : Program} {w : World} {mean : ExcName → Option Value} {mg mb : Str → Option Value}
theorem caught_V {A₀ : Around} {base g h : Heap} {outer : List Env} {L a e t : Addr} {m : Str → Option Value} {name : Str} {scope : Scope} {cd : Value} {vs : List Value} {b₀ : Stmt} {suite : List Stmt} {pos np : Pos} {rest : List ExceptHandler} {Q : Flow → Shared → Prop} {E : Value → Shared → Prop} {s' : Shared}
    (B : Below A₀ base outer g) (T : Top hd.view_39 Lse mean mg mb base) (F : Fr g L h m)
    (R : RaisedK (hideAll h ((envOf name scope L a cd :: outer).filterMap (·.frame))) (envOf name scope L a cd :: outer) e (.type "ValueError") t vs [] s'.heap) (hsm : h.UpToSlots s'.heap)
    (k : ∀ h' g', Below A₀ base outer g' → UpV outer g g' → Fr g' L h' m → News g' L h' [] →
      wpAny (model prog w) ((A₀.deeper (envOf name scope L a cd)).mark (some (.ref e))) (execs (b₀ :: suite) (envOf name scope L a cd)) Q E { s' with heap := h' })
    (hk : scope.kind = .function := by rfl) (hx : (envOf name scope L a cd).kindOf ("ValueError" : Str) = some .globalImplicit := by rfl)
    (hE : PassesOwnAt (model prog w) ((A₀.deeper (envOf name scope L a cd)).mark (some (.ref e))) (A₀.deeper (envOf name scope L a cd)) (envOf name scope L a cd) E := by passes_own) :
    wpAny (model prog w) (A₀.deeper (envOf name scope L a cd)) (noteFrame (.ref e) (envOf name scope L a cd))
      (fun _ s₂ => wpAny (model prog w) (A₀.deeper (envOf name scope L a cd)) (setFlight (.ref e) none) (fun _ s₃ =>
        wpAny (model prog w) (A₀.deeper (envOf name scope L a cd)) (handleBy (.ref e) (envOf name scope L a cd) (.ExceptHandler (some (.Name ("ValueError" : Str) np)) none (b₀ :: suite) pos :: rest)) Q E s₃) E s₂) E s' := by
  have K' := B.push (name := name) (a := a) (cd := cd) F hk
  have st : base.StaysIn (hideAll h ((envOf name scope L a cd :: outer).filterMap (·.frame))) := fun b o q => hideAll_get _ (K'.stays b o q) fun hm => by
    rw [(K'.frames.mem hm).1] at q; cases q
  obtain ⟨⟨B', hB, -, hfl, -⟩, -⟩ := R
  refine wpAny_looks_onW (Around.frames_deeper B.stack) rfl hfl fun h₄ hheld₄ hsm₄ => ?_
  refine wpAny_landsW hheld₄ fun h₅ hheld hsm₅' => ?_
  have hsm₅ := hsm₄.trans hsm₅'
  have hheld' := flyingW_base hB hheld
  have sm5 : base.StaysIn h₅ := fun b o q => hheld'.1 b o (st b o q)
  obtain ⟨ob, hob, hobc⟩ := hheld'.there
  refine wpAny_handleBy_builtin (X := "ValueError") (T := "ValueError") (b := true) PySem.F.isExc_ValueError PySem.F.notTuple_ValueError (by rw [isSubtype_type]; kernel_rfl)
    (Calls.Name_function_global hk hx (Calls.loadGlobal_builtin (env := envOf name scope L a cd) (T.g.keeps sm5) (T.free _ (by decide +kernel) (by decide +kernel) (by decide +kernel) (by decide +kernel) (by decide +kernel)) (T.b.keeps sm5)
      ((T.builtins _ (by decide +kernel)).trans PyProof.Rows.Boot.«ValueError») ⟨rfl, ⟨ob, hob, hobc⟩, ?_⟩))
  refine lands_againW hheld fun h₆ hfl₆ hsm₆ => ?_
  have hfl' := flyingW_base hB hfl₆
  have hsm' := hsm.trans (hsm₅.trans hsm₆)
  have U : UpV (envOf name scope L a cd :: outer) h h₆ := ⟨fun b o n q => hfl'.1 b o (hideAll_get _ q n), hsm'⟩
  have U' := upV_rf (env := envOf name scope L a cd) rfl F U
  have B' : Below A₀ base outer (rf g h₆) := ⟨B.stack, fun b o q => U'.1 b o (fun hm => by rw [(B.frames.mem hm).1] at q; cases q) (B.stays b o q), funFrames_rf B.frames (K'.frames.of_keeps fun b o q hn => by
    obtain ⟨sl, e2⟩ := hsm' b o q hn
    exact ⟨_, e2, rfl⟩).2.2⟩
  exact wpAny_passesOwnAt hE (k h₆ (rf g h₆) B' U' ⟨hsm'.ns F.ns, fun b o q => (rf_of q).1, Nat.le_trans (rf_size _ _) F.above⟩ News.nil)
/-- the contract of _law_refused -/
def RefC (prog : Program) (w : World) (mean : ExcName → Option Value) (mg mb : Str → Option Value) (k : Nat) : Prop :=
  ∀ (b : Array UInt8) (bs : List Int) (W x dep : Int) (only : Bool) (t0 t1 t2 t3 : Tok), KBw.bInts b = bs → BytesL bs → bs.length ≤ 1000 → 0 ≤ W → W ≤ bs.length → 0 ≤ x → x ≤ 3000 → 0 ≤ dep → dep ≤ 100 → (11 - dep).toNat = k →
  ∀ (dp un : Nat) (gd : Option (List Code)) (base : Heap) (envs : List Env) (s : Shared) (Q E : Value → Shared → Prop),
    At w mean mg mb (ktA dp un gd envs) base s.heap envs → dp + (4 + k) < recursionLimit → un + 8 * (4 + k) + 200 < cLine →
    (∀ h' tk', UpV envs s.heap h' → Q (.bool (rd bs W k x).isNone) { s with heap := h', toks := tk' }) →
    wpAny (model prog w) (ktA dp un gd envs) (call (.ref 92) [.bytes b t0, .int W t1, .int x t2, .bool only, .int dep t3] []) Q E s
theorem upV_fin {envs : List Env} {h g h' : Heap} {L : Addr} {m : Str → Option Value} (U : UpV envs h g) (F : Fr g L h' m) : UpV envs h h' := U.trans (UpV.of_keeps F.keep)
end
--MACRO
local macro_rules | `(tactic| walk_at "m_parse") => `(tactic| ((with_reducible show wpAny _ _ (call (Value.ref 30) _ _) _ _ _); refine stop_it ?_))
local macro_rules | `(tactic| walk_at "noteFrame ref") => `(tactic| refine stop_it ?_)
--END
section
variable {prog : Program} {w : World} {mean : ExcName → Option Value} {mg mb : Str → Option Value}
set_option maxHeartbeats 8000000 in
theorem refused_spec (k : Nat) (IH : ParseC prog w mean mg mb k) : RefC prog w mean mg mb k := by
  intro b bs W x dep only t0 t1 t2 t3 hb hB hlen hW0 hW hx0 hx1 hd0 hd9 hdk
  intro dp un gd base envs s Q E C hd hu ret
  refine hc_enter (own := []) C (fun _ h => nomatch h) (by omega) (by k_dflt k_is) (by k_dflt k_is) (fun _ _ => BindsTo.of_eq rfl) (locs rfl) rfl rfl rfl (by decide) ?_
  intro g L h₁ F N B X T KG GS
  have C' : At w mean mg mb (ktA dp un gd envs) base g envs := ⟨B, C.X, C.T⟩
  have U0 : UpV envs s.heap g := UpV.of_keeps fun b o e => KG b o (fun h => nomatch h) e
  dsimp only
  k_steps
  all_goals (try dsimp only)
  rename Fr _ _ _ _ => F2
  rename News _ _ _ _ => N2
  show wpAny _ _ _ _ _ _
  refine hc_use0 (IH _ _ b bs W x dep only t0 t1 t2 t3 hb hB hlen hW0 hW hx0 hx1 hd0 hd9 hdk bind_5) C' F2 N2 rfl (by omega) (by omega) ?_ ?_
  · intro r own' h' tk' F' N' hn P
    obtain ⟨d, hr, -⟩ := P
    clear N' hn F2 N2
    have N' : News g L h' [] := News.nil
    have hr' : (rd bs W k x).isNone = false := by rw [hr]; rfl
    k_steps
    all_goals (try dsimp only)
    rename Fr _ _ _ _ => F9
    have z := ret _ tk' (upV_fin U0 F9)
    rw [hr'] at z
    exact z
  · intro e t vs h' tk' hz R U
    dsimp only
    refine caught_V B C.T F2 R U ?_
    intro h6 g' B' U' F6 N6
    have hr' : (rd bs W k x).isNone = true := by rw [hz]; rfl
    clear F2 N2 R U
    k_steps
    all_goals (try dsimp only)
    rename Fr _ _ _ _ => F9
    have z := ret _ tk' (upV_fin (U0.trans U') F9)
    rw [hr'] at z
    exact z
theorem use_refused {k : Nat} (IH : RefC prog w mean mg mb k) {b : Array UInt8} {bs : List Int} {W x dep : Int} {only : Bool} {t0 t1 t2 t3 : Tok}
    {dp un : Nat} {gd : Option (List Code)} {base g : Heap} {envs : List Env} {s : Shared} {Q E : Value → Shared → Prop} {L : Addr} {m : Str → Option Value} {cn : Str} {cs : Scope} {a : Addr} {ccd : Value} {news : List (Addr × Obj)}
    (C : At w mean mg mb (ktA dp un gd envs) base g envs) (F : Fr g L s.heap m) (N : News g L s.heap news) (hk : cs.kind = .function)
    (hb : KBw.bInts b = bs) (hB : BytesL bs) (hl : bs.length ≤ 1000) (hW0 : 0 ≤ W) (hW : W ≤ bs.length) (hx0 : 0 ≤ x) (hx1 : x ≤ 3000) (hd0 : 0 ≤ dep) (hd9 : dep ≤ 100) (hdk : (11 - dep).toNat = k)
    (hd' : dp + 1 + (4 + k) < recursionLimit) (hu : un + 3 + 8 * (4 + k) + 200 < cLine)
    (ret : ∀ g' h' tk', At w mean mg mb (ktA dp un gd envs) base g' envs → UpV envs g g' → Fr g' L h' m → News g' L h' news → Q (.bool (rd bs W k x).isNone) { s with heap := h', toks := tk' }) :
    wpAny (model prog w) ((ktA dp un gd envs).deeper (envOf cn cs L a ccd)) (call (.ref 92) [.bytes b t0, .int W t1, .int x t2, .bool only, .int dep t3] []) Q E s := by
  have B := C.B.push (name := cn) (scope := cs) (a := a) (cd := ccd) F hk
  have hC : At w mean mg mb (ktA (dp + 1) (un + 3) gd (envOf cn cs L a ccd :: envs)) base s.heap (envOf cn cs L a ccd :: envs) := ⟨⟨rfl, B.stays, B.frames⟩, C.X, C.T⟩
  refine IH b bs W x dep only t0 t1 t2 t3 hb hB hl hW0 hW hx0 hx1 hd0 hd9 hdk (dp + 1) (un + 3) gd base _ s Q E hC hd' hu fun h' tk' U => ?_
  have U' := upV_rf (env := envOf cn cs L a ccd) rfl F U
  have B' : Below (ktA dp un gd envs) base envs (rf g h') := ⟨C.B.stack, fun b o q => U'.1 b o (fun hm => by rw [(C.B.frames.mem hm).1] at q; cases q) (C.B.stays b o q), funFrames_rf C.B.frames (B.frames.of_keeps fun b o q hn => by
    obtain ⟨sl, e2⟩ := U.2 b o q hn
    exact ⟨_, e2, rfl⟩).2.2⟩
  refine ret (rf g h') h' tk' ⟨B', C.X, C.T⟩ U' ⟨U.2.ns F.ns, fun b o q => (rf_of q).1, Nat.le_trans (rf_size _ _) F.above⟩ fun p hp => ?_
  obtain ⟨n1, n2, n3⟩ := N p hp
  refine ⟨U.1 _ _ (fun q => ?_) n1, n2, ?_⟩
  · rcases kts_mem q with q | q
    · exact n2 q
    · obtain ⟨_, o, ho, _⟩ := C.B.frames.mem q
      rw [n3] at ho; cases ho
  · cases q : (rf g h').get? p.1 with
    | none => rfl
    | some o =>
      obtain ⟨_, o', ho⟩ := rf_of q
      rw [n3] at ho; cases ho
end

/-- the contract of _law_asked -/
def AskC (prog : Program) (w : World) (mean : ExcName → Option Value) (mg mb : Str → Option Value) (k : Nat) : Prop :=
  ∀ (b : Array UInt8) (ro : Addr) (vs : List Value) (bs : List Int) (nr : Nat) (W x dep : Int) (t0 t1 t2 t3 : Tok), KBw.bInts b = bs → IntsAre vs bs → BytesL bs → bs.length ≤ 1000 → 0 ≤ W → W ≤ bs.length → 0 ≤ x → x ≤ 3000 → 0 ≤ dep → dep ≤ 100 → (11 - dep).toNat = k →
  ∀ (dp un : Nat) (gd : Option (List Code)) (base : Heap) (envs : List Env) (s : Shared) (Q E : Value → Shared → Prop),
    At w mean mg mb (ktA dp un gd envs) base s.heap envs → OwnAt base s.heap envs [(ro, lsO vs nr)] → dp + (5 + k) < recursionLimit → un + 8 * (5 + k) + 200 < cLine →
    (∀ h' tk', UpV envs s.heap h' → Q (.bool true) { s with heap := h', toks := tk' }) →
    wpAny (model prog w) (ktA dp un gd envs) (call (.ref 99) [.bytes b t0, .ref ro, .int W t1, .int x t2, .int dep t3] []) Q E s
theorem upV_end {envs : List Env} {base h g g9 h' : Heap} {L : Addr} {m : Str → Option Value} {own : List (Addr × Obj)} (KG : Kp (ads own) h g) (O : OwnAt base h envs own) (U : UpV envs g g9) (F : Fr g9 L h' m) (N : News g9 L h' own) : UpV envs h h' := by
  refine ⟨fun b o n e => ?_, fun b o e hn => ?_⟩
  · by_cases q : b ∈ ads own
    · obtain ⟨p, hp, rfl⟩ := List.mem_map.mp q
      have := (O p hp).1
      rw [e] at this
      cases this
      exact (N p hp).1
    · exact F.keep b o (U.1 b o n (KG b o q e))
  · by_cases q : b ∈ ads own
    · obtain ⟨p, hp, rfl⟩ := List.mem_map.mp q
      have := (O p hp).1
      rw [e] at this
      cases this
      exact ⟨p.2.slots, (N p hp).1⟩
    · obtain ⟨sl, e2⟩ := U.2 b o (KG b o q e) hn
      exact ⟨sl, F.keep _ _ e2⟩
section
variable {prog : Program} {w : World} {mean : ExcName → Option Value} {mg mb : Str → Option Value}
theorem use_refusedN {k : Nat} (IH : RefC prog w mean mg mb k) {b : Array UInt8} {bs : List Int} {W x dep : Int} {only : Bool} {t0 t1 t2 t3 : Tok}
    {dp un : Nat} {gd : Option (List Code)} {base g : Heap} {envs : List Env} {s : Shared} {Q E : Value → Shared → Prop} {L : Addr} {m : Str → Option Value} {cn : Str} {cs : Scope} {a : Addr} {ccd : Value} {news : List (Addr × Obj)} {g₀ : Heap}
    (hr : rd bs W k x = none) (C : At w mean mg mb (ktA dp un gd envs) base g envs) (U0 : UpV envs g₀ g) (F : Fr g L s.heap m) (N : News g L s.heap news) (hk : cs.kind = .function)
    (hb : KBw.bInts b = bs) (hB : BytesL bs) (hl : bs.length ≤ 1000) (hW0 : 0 ≤ W) (hW : W ≤ bs.length) (hx0 : 0 ≤ x) (hx1 : x ≤ 3000) (hd0 : 0 ≤ dep) (hd9 : dep ≤ 100) (hdk : (11 - dep).toNat = k)
    (hd' : dp + 1 + (4 + k) < recursionLimit) (hu : un + 3 + 8 * (4 + k) + 200 < cLine)
    (ret : ∀ g' h' tk', At w mean mg mb (ktA dp un gd envs) base g' envs → UpV envs g₀ g' → Below (ktA dp un gd envs) base envs g' → (hd.heap_39 w.params).In g' → Top hd.view_39 Lse mean mg mb g' → Fr g' L h' m → News g' L h' news → Q (.bool true) { s with heap := h', toks := tk' }) :
    wpAny (model prog w) ((ktA dp un gd envs).deeper (envOf cn cs L a ccd)) (call (.ref 92) [.bytes b t0, .int W t1, .int x t2, .bool only, .int dep t3] []) Q E s := by
  refine use_refused IH C F N hk hb hB hl hW0 hW hx0 hx1 hd0 hd9 hdk hd' hu fun g' h' tk' C' U' F' N' => ?_
  rw [hr]
  exact ret g' h' tk' C' (U0.trans U') C'.B (C'.X.keeps C'.B.stays) (C'.T.keeps C'.B.stays) F' N'
end
theorem isTup {h₀ h : Heap} {L a : Addr} {news : List (Addr × Obj)} {its : List Value} (N : News h₀ L h news) (hm : (a, tupO its) ∈ news) : h.IsTuple a its.toArray := ⟨_, (N _ hm).1, rfl, _, rfl⟩
theorem eqAt_int {A : Around} {s : Shared} {i j : Int} {t u : Tok} (h : i = j) : SeqAt.EqAt A s (.int i t) (.int j u) true := by
  have := SeqAt.EqAt.int_int (A := A) (s := s) i t j u
  rw [h, beq_self_eq_true] at this
  rw [h]; exact this
theorem eqAt_bytes {A : Around} {s : Shared} {b c : Array UInt8} {t u : Tok} (h : KBw.bInts b = KBw.bInts c) : SeqAt.EqAt A s (.bytes b t) (.bytes c u) true := fun prog w E Q hq => by
  have e := ints_inj h
  subst e
  exact eqBool_bytes (by rw [decide_eq_true rfl]; exact hq)
theorem eqAt_tup {A : Around} {s : Shared} {h₀ : Heap} {L a b : Addr} {news : List (Addr × Obj)} {xs ys : List Value} (N : News h₀ L s.heap news) (ha : (a, tupO xs) ∈ news) (hb : (b, tupO ys) ∈ news) (hab : a ≠ b) (hu : A.units < cLine) (hl : xs.length = ys.length)
    (he : ∀ j (h1 : j < xs.length) (h2 : j < ys.length), SeqAt.EqAt A.in1 s xs[j] ys[j] true) : SeqAt.EqAt A s (.ref a) (.ref b) true := by
  have := SeqAt.RcAt.tuples (A := A) (s := s) (e := fun _ => true) (isTup N ha) (isTup N hb) hu (fun j h1 h2 => he j h1 h2)
  have e : ((List.range (min xs.toArray.size ys.toArray.size)).all (fun _ => true) && xs.toArray.size == ys.toArray.size) = true := by simp [hl]
  rw [e] at this
  exact .of_refs hab this
section
variable {A : Around} {E : Value → Shared → Prop} {s : Shared} {h₀ : Heap} {L a b t p : Addr} {news : List (Addr × Obj)} {Q : Value → Shared → Prop} {c1 c2 m1 m2 g1 g2 e1 e2 : Int} {x1 x2 x3 y1 y2 y3 : Array UInt8} {u1 u2 u3 u4 u5 u6 u7 v1 v2 v3 v4 v5 v6 v7 : Tok}
theorem ne_told (N : News h₀ L s.heap news) (ha : (a, tupO [.ref t, .int e1 u7]) ∈ news) (hb : (b, tupO [.ref p, .int e2 v7]) ∈ news)
    (ht : (t, tupO [.int c1 u1, .int m1 u2, .int g1 u3, .bytes x1 u4, .bytes x2 u5, .bytes x3 u6]) ∈ news) (hp : (p, tupO [.int c2 v1, .int m2 v2, .int g2 v3, .bytes y1 v4, .bytes y2 v5, .bytes y3 v6]) ∈ news)
    (htp : @Ne Nat t p) (hu : A.units + 64 < cLine) (q1 : c1 = c2) (q2 : m1 = m2) (q3 : g1 = g2) (q4 : KBw.bInts x1 = KBw.bInts y1) (q5 : KBw.bInts x2 = KBw.bInts y2) (q6 : KBw.bInts x3 = KBw.bInts y3) (q7 : e1 = e2)
    (h : Q (.bool false) s) : wpAny (model prog w) A (compareOp .NotEq (.ref a) (.ref b)) Q E s := by
  have z := SeqAt.RcNeAt.tuples (A := A) (s := s) (e := fun _ => true) (isTup N ha) (isTup N hb) (by omega) (fun j h1 h2 => by
    match j, h1 with
    | 0, _ =>
      refine eqAt_tup N ht hp htp (by show A.units + 1 < cLine; omega) rfl fun i h3 h4 => ?_
      match i, h3 with
      | 0, _ => exact eqAt_int q1
      | 1, _ => exact eqAt_int q2
      | 2, _ => exact eqAt_int q3
      | 3, _ => exact eqAt_bytes q4
      | 4, _ => exact eqAt_bytes q5
      | 5, _ => exact eqAt_bytes q6
    | 1, _ => exact eqAt_int q7)
  exact z prog w E Q h
theorem eq_two (N : News h₀ L s.heap news) (ha : (a, tupO [.int c1 u1, .int e1 u7]) ∈ news) (hb : (b, tupO [.int c2 v1, .int e2 v7]) ∈ news) (hu : A.units + 64 < cLine) (q1 : c1 = c2) (q7 : e1 = e2)
    (h : Q (.bool true) s) : wpAny (model prog w) A (compareOp .Eq (.ref a) (.ref b)) Q E s := by
  have z := SeqAt.RcAt.tuples (A := A) (s := s) (e := fun _ => true) (isTup N ha) (isTup N hb) (by omega) (fun j h1 h2 => by
    match j, h1 with
    | 0, _ => exact eqAt_int q1
    | 1, _ => exact eqAt_int q7)
  exact z prog w E Q h
end
section
variable {prog : Program} {w : World} {A : Around} {E : Value → Shared → Prop} {s : Shared} {h₀ : Heap} {L l : Addr} {m : Str → Option Value} {news : List (Addr × Obj)} {vs : List Value} {ns : List Int} {lo hi : Int} {tl tu : Tok} {value slice : PySem.Expr} {Q : Value → Shared → Prop}
theorem slice_L (F : Fr h₀ L s.heap m) (N : News h₀ L s.heap news) (hl : s.heap.IsList l vs.toArray) (hi' : IntsAre vs ns) (h0 : 0 ≤ lo) (h1 : lo ≤ hi) (h2 : hi ≤ ns.length) (hz : ns.length ≤ 1000)
    (h : ∀ D ws h', Fr h₀ L h' m → News h₀ L h' ((D, listOf (List.toArray ws) 0) :: news) → (∀ p ∈ news, p.1 < D) → IntsAre ws (sl ns lo hi) → (sl ns lo hi).length ≤ 1000 → Q (.ref D) { s with heap := h' })
    (hs : subscripted slice false (.ref l) (.ref s.heap.objs.size) = operate [.ref s.heap.objs.size, .ref l] (getItem (.ref l) (.ref s.heap.objs.size))) (ht : ∀ r, letTemporaryGo value (.ref l) r = pure ()) :
    wpAny (model prog w) A (subscriptTail value slice (.ref l) (.ref s.heap.objs.size)) Q E { s with heap := s.heap.push { cls := .type "slice", data := .fields #[.int lo tl, .int hi tu, .none] } } := by
  have hm := kmk_run hi' h0 (show 0 ≤ hi by omega)
  have e : (ns.drop lo.toNat).take (min hi.toNat ns.length - lo.toNat) = sl ns lo hi := by
    unfold sl; congr 1; omega
  rw [e] at hm
  exact kmk_slice_ints F N hl (by constructor) (by constructor) hi' hm rfl (fun D ws h' F' N' l1 hI _ hL => h D ws h' F' N' l1 hI (by omega)) hs ht (by rw [List.size_toArray, hi'.length, sizeLine_eq]; omega)
end
theorem in_sub {bs : List Int} (h : BytesL bs) (a b : Int) : KBa.In (sl bs a b) := fun y hy => h y (List.mem_of_mem_drop (List.mem_of_mem_take hy))
--MACRO
local macro_rules | `(tactic| walk_at "m_idx") => `(tactic| first | omega | ((try simp only [Int.reduceToNat, List.getD_cons_zero, List.getD_cons_succ]); omega))
local macro_rules | `(tactic| walk_at "subscriptTail Name Slice ref ref") => `(tactic| (k_here; (with_reducible show wpAny _ _ (subscriptTail _ (PySem.Expr.Slice (some _) (some _) none _) (Value.ref _) (Value.ref _)) _ _ _); k_dflt (refine' slice_L ?F ?N ?l ?i ?m0 ?m1 ?m2 ?z ?_ ?s ?t; (case F => k_asm); (case N => k_asm); (case l => kmk_list); (case i => l_ints); (case m0 => walk_at "m_idx"); (case m1 => walk_at "m_idx"); (case m2 => walk_at "m_idx"); (case z => omega); (case s => with_unfolding_all rfl); (case t => kmk_pure)); intro D' ws' h' F' N' l1 hI' hL'; (try k_lt l1); (try k_sweep)))
local macro_rules | `(tactic| walk_at "call type:bytes") => `(tactic| (k_here; (with_reducible show wpAny _ _ (call (Value.type "bytes") [Value.ref _]) _ _ _); k_dflt (refine' KBa.make_K ?kbaF ?kbaN ?kbah ?kbal ?kbai ?kbar ?kban ?_; (case kbaF => k_asm); (case kbaN => k_asm); (case kbah => rfl); (case kbal => kba_isList); (case kbai => kba_listInts); (case kbar => exact in_sub (by assumption) _ _); (case kban => omega)); intro h' t' k' F' N' kbaIn; (try dsimp only); (try k_fold)))
local macro_rules | `(tactic| walk_at "compareOp NotEq ref ref") => `(tactic| refine stop_it ?_)
local macro_rules | `(tactic| walk_at "compareOp Eq ref ref") => `(tactic| refine stop_it ?_)
local macro_rules | `(tactic| walk_at "m_ref") => `(tactic| (
  (with_reducible show wpAny _ _ (call (Value.ref 92) _ _) _ _ _);
  (with_reducible rename RefC _ _ _ _ _ _ => IH');
  k_dflt (refine' use_refusedN IH' ?hr ?C ?U ?F ?N ?hk ?b ?bb ?l1 ?l2 ?l3 ?l4 ?l5 ?l6 ?l7 ?l8 ?hd ?hu ?_; (case hr => assumption); (case C => k_asm); (case U => k_asm); (case F => k_asm); (case N => k_asm); (case hk => rfl); (case b => assumption); (case bb => k_asm); (case l1 => omega); (case l2 => omega); (case l3 => omega); (case l4 => omega); (case l5 => omega); (case l6 => omega); (case l7 => omega); (case l8 => omega); (case hd => omega); (case hu => omega));
  intro g' h' tk' C' U' B' X' T' F' N'; (try dsimp only); (try k_fold)))
local macro_rules | `(tactic| walk_at "m_parse") => `(tactic| (
  (with_reducible show wpAny _ _ (call (Value.ref 30) _ _) _ _ _);
  (with_reducible rename ParseC _ _ _ _ _ _ => IH');
  k_dflt (refine' use_parse IH' ?bd ?C ?F ?N ?hk ?b ?bb ?l1 ?l2 ?l3 ?l4 ?l5 ?l6 ?l7 ?l8 ?hd ?hu ?rS ?rR; (case bd => exact bind_5); (case C => k_asm); (case F => k_asm); (case N => k_asm); (case hk => rfl); (case b => assumption); (case bb => k_asm); (case l1 => omega); (case l2 => omega); (case l3 => omega); (case l4 => omega); (case l5 => omega); (case l6 => omega); (case l7 => omega); (case l8 => omega); (case hd => omega); (case hu => omega));
  (case' rS => (intro r' own' h' tk' hP' hn' F' N'; refine stop_it ?_));
  (case' rR => (intro e' t' vs' h' tk' hr' R' U'; exfalso; (rename rd _ _ _ _ = some _ => hs'); rw [hs'] at hr'; cases hr'))))
local macro_rules | `(tactic| walk_at "call ref") => `(tactic| first | walk_at "m_take" | walk_at "m_some" | walk_at "m_first" | walk_at "m_sized" | walk_at "m_grow" | walk_at "m_read" | walk_at "m_ifb" | walk_at "m_parse" | walk_at "m_ref")
--END
section
variable {prog : Program} {w : World} {mean : ExcName → Option Value} {mg mb : Str → Option Value}
set_option maxHeartbeats 8000000 in
theorem asked_spec (k : Nat) (hk : k ≤ 11) (H1 : ParseC prog w mean mg mb k) (H2 : ReadC prog w mean mg mb k) (H3 : RefC prog w mean mg mb k) : AskC prog w mean mg mb k := by
  intro b ro vs bs nr W x dep t0 t1 t2 t3 hb hV hB hlen hW0 hW hx0 hx1 hd0 hd9 hdk
  intro dp un gd base envs s Q E C O hd hu ret
  refine hc_enter C O (by omega) (by k_dflt k_is) (by k_dflt k_is) (fun _ _ => BindsTo.of_eq rfl) (locs rfl) rfl rfl rfl (by decide) ?_
  intro g L h₁ F N B X T KG GS
  have C' : At w mean mg mb (ktA dp un gd envs) base g envs := ⟨B, C.X, C.T⟩
  have U0 : UpV envs g g := UpV.of_keeps fun b o e => e
  dsimp only
  k_steps
  all_goals (try dsimp only)
  · rename rd _ _ _ _ = some _ => hr
    rename PostP _ _ _ _ _ _ _ => hP
    rename News _ _ _ _ => N9
    show wpAny _ _ _ _ _ _
    obtain ⟨d2, hr2, -, hPf⟩ := hP
    obtain ⟨a, t, b1, b2, b3, u1, u2, u3, u4, u5, u6, u7, rfl, hat, rfl, hb1, hb2, hb3⟩ := hPf rfl
    obtain rfl := Option.some.inj (hr.symm.trans hr2)
    simp only [List.cons_append, List.nil_append, List.append_nil] at N9
    rename Rd => d
    have hbd := rd_bounds hB hW hx0 hr
    k_steps
    all_goals (try dsimp only)
    rename News _ _ _ _ => N8
    show wpAny _ _ _ _ _ _
    k_dflt (refine' ne_told N8 ?m1 ?m2 ?m3 ?m4 ?m5 ?m6 rfl rfl rfl ?m7 ?m8 ?m9 rfl ?_; (case m1 => k_mem); (case m2 => k_mem); (case m3 => k_mem); (case m4 => k_mem); (case m5 => omega); (case m6 => ((try dsimp only [Around.deeper_units, Around.in1]); omega)); (case m7 => exact hb1.trans (KBa.ints_make (in_sub hB _ _)).symm); (case m8 => exact hb2.trans (KBa.ints_make (in_sub hB _ _)).symm); (case m9 => exact hb3.trans (KBa.ints_make (in_sub hB _ _)).symm))
    k_steps
    all_goals (try dsimp only)
    rename PostP _ _ _ _ _ _ _ => hP2
    rename News _ _ _ _ => N7
    show wpAny _ _ _ _ _ _
    obtain ⟨d3, hr3, hPt3, -⟩ := hP2
    obtain ⟨a3, w5, w6, hra, hro⟩ := hPt3 rfl
    subst hra hro
    obtain rfl := Option.some.inj (hr.symm.trans hr3)
    simp only [List.cons_append, List.nil_append, List.append_nil] at N7
    k_steps
    all_goals (try dsimp only)
    rename News _ _ _ _ => N6
    show wpAny _ _ _ _ _ _
    k_dflt (refine' eq_two N6 ?m1 ?m2 ?m6 rfl rfl ?_; (case m1 => k_mem); (case m2 => k_mem); (case m6 => ((try dsimp only [Around.deeper_units, Around.in1]); omega)))
    k_steps
    all_goals (try dsimp only)
    rename Fr _ _ _ _ => F9
    exact ret _ _ (upV_end KG O U0 F9 (news_sub N6 (by walk_at "m_sub")))
  · rename News _ _ _ _ => N9
    rename Fr _ _ _ _ => F9
    rename UpV _ _ _ => U9
    exact ret _ _ (upV_end KG O U9 F9 (news_sub N9 (by walk_at "m_sub")))
end

section
/-- what stands at a place -/
theorem gi_app {pre : List Int} {c : Int} {suf : List Int} : gi (pre ++ c :: suf) (pre.length : Int) = c := by
  unfold gi
  rw [Int.toNat_natCast, List.getD_eq_getElem?_getD, List.getElem?_append_right (Nat.le_refl _), Nat.sub_self]
  rfl
theorem gi_at {bs pre : List Int} {c : Int} {suf : List Int} {x : Int} (e : bs = pre ++ c :: suf) (hx : x = (pre.length : Int)) : gi bs x = c := by
  rw [e, hx]; exact gi_app
theorem goodFirst_pos {me : Int} {f : List Int} (h : GoodFirst me f) : ∃ x r, f = x :: r ∧ x ≠ 0 := by
  rcases h with ⟨x, rfl, h0, h1, h2, h3, h4⟩ | ⟨x, d, rfl, h0, h1, h2, h3, h4, h5⟩ | ⟨x, d, e, rfl, h0, h1, h2, h3, h4, h5, h6, h7⟩
  · exact ⟨x, [], rfl, by omega⟩
  · exact ⟨x, [d], rfl, by omega⟩
  · exact ⟨x, [d, e], rfl, by omega⟩
theorem elem_pos {d : Nat} {c : List Int} (h : Elem d c) : ∃ x r, c = x :: r ∧ x ≠ 0 := by
  cases h with
  | prim h1 h2 h3 h4 =>
    obtain ⟨x, r, rfl, hx⟩ := goodFirst_pos h1
    exact ⟨x, _, rfl, hx⟩
  | indef0 h1 =>
    obtain ⟨x, r, rfl, hx⟩ := goodFirst_pos h1
    exact ⟨x, _, rfl, hx⟩
  | indef h1 h2 =>
    obtain ⟨x, r, rfl, hx⟩ := goodFirst_pos h1
    exact ⟨x, _, rfl, hx⟩
theorem reg_at {bs pre r : List Int} {W x : Int} (e : bs = pre ++ r) (hx : x = (pre.length : Int)) (hW : W = (bs.length : Int)) : reg bs W x = r := by
  unfold reg
  rw [hW, hx, Int.toNat_natCast, Int.toNat_natCast, List.take_length, e, List.drop_left]
/-- the tag of an element that the law built -/
theorem rdT_good {bs pre f r : List Int} {me W x : Int} (hF : GoodFirst me f) (e : bs = pre ++ (f ++ r)) (hx : x = (pre.length : Int)) (hW : W = (bs.length : Int)) :
    ∃ tag, rdT bs W x = some (tag, x + (f.length : Int)) ∧ ((gi bs x).fdiv 32).fmod 2 = me := by
  rcases hF with ⟨y, rfl, h0, h1, h2, h3, h4⟩ | ⟨y, d, rfl, h0, h1, h2, h3, h4, h5⟩ | ⟨y, d, q, rfl, h0, h1, h2, h3, h4, h5, h6, h7⟩
  · have g := gi_at (bs := bs) (pre := pre) (c := y) (suf := r) (x := x) e hx
    refine ⟨(gi bs x).fmod 32, (rdT_plain (by rw [g, Int.fmod_eq_emod_of_nonneg _ (by decide)]; omega)).trans rfl, ?_⟩
    rw [g, Int.fdiv_eq_ediv_of_nonneg _ (by decide), Int.fmod_eq_emod_of_nonneg _ (by decide)]; exact h4
  · have g := gi_at (bs := bs) (pre := pre) (c := y) (suf := d :: r) (x := x) e hx
    have rg : reg bs W (x + 1) = d :: r := reg_at (pre := pre ++ [y]) (by rw [e]; simp) (by rw [hx]; simp) hW
    have rt : rdTag (reg bs W (x + 1)) = some [d] := by
      rw [rg]; unfold rdTag; rw [if_pos h5]
    have hf : foldT [d] = d := by
      show 128 * 0 + d.fmod 128 = d
      rw [Int.fmod_eq_emod_of_nonneg _ (by decide)]; omega
    refine ⟨foldT [d], (rdT_long (by rw [g, Int.fmod_eq_emod_of_nonneg _ (by decide)]; exact h2) rt (by show d ≠ 128; omega) (by rw [hf]; omega)).trans ?_, ?_⟩
    · rw [Int.add_assoc]; rfl
    · rw [g, Int.fdiv_eq_ediv_of_nonneg _ (by decide), Int.fmod_eq_emod_of_nonneg _ (by decide)]; exact h3
  · have g := gi_at (bs := bs) (pre := pre) (c := y) (suf := d :: q :: r) (x := x) e hx
    have rg : reg bs W (x + 1) = d :: q :: r := reg_at (pre := pre ++ [y]) (by rw [e]; simp) (by rw [hx]; simp) hW
    have rt : rdTag (reg bs W (x + 1)) = some [d, q] := by
      rw [rg]; unfold rdTag; rw [if_neg (by omega)]; unfold rdTag; rw [if_pos h7]; rfl
    have hf : foldT [d, q] = 128 * (d - 128) + q := by
      show 128 * (128 * 0 + d.fmod 128) + q.fmod 128 = _
      rw [Int.fmod_eq_emod_of_nonneg _ (by decide), Int.fmod_eq_emod_of_nonneg _ (by decide)]; omega
    refine ⟨foldT [d, q], (rdT_long (by rw [g, Int.fmod_eq_emod_of_nonneg _ (by decide)]; exact h2) rt (by show d ≠ 128; omega) (by rw [hf]; omega)).trans ?_, ?_⟩
    · rw [Int.add_assoc]; rfl
    · rw [g, Int.fdiv_eq_ediv_of_nonneg _ (by decide), Int.fmod_eq_emod_of_nonneg _ (by decide)]; exact h3
theorem drop_at {bs pre r : List Int} {x : Int} (e : bs = pre ++ r) (hx : x = (pre.length : Int)) : bs.drop x.toNat = r := by
  rw [hx, Int.toNat_natCast, e, List.drop_left]
/-- the length of an element that the law built -/
theorem rdL_good {bs pre lb c r : List Int} {first tag W a1 : Int} {ch : Int → Option Int} (hL : GoodLen (c.length : Int) lb) (hc : c.length ≤ 600) (e : bs = pre ++ (lb ++ (c ++ r))) (hx : a1 = (pre.length : Int)) (hW : W = (bs.length : Int)) :
    ∃ d, rdL bs W ch first tag a1 = some d ∧ d.e = a1 + (lb.length : Int) + (c.length : Int) := by
  have hlen : (bs.length : Int) = pre.length + lb.length + c.length + r.length := by rw [e]; simp; omega
  rcases hL with ⟨rfl, h⟩ | ⟨rfl, h⟩ | rfl | rfl
  · have g := gi_at (bs := bs) (pre := pre) (c := (c.length : Int)) (suf := c ++ r) (x := a1) e hx
    simp only [List.length_singleton] at hlen ⊢
    exact ⟨_, rdL_h (by omega) (by rw [g]; omega) (by rw [g]; omega) (by rw [g]; omega), by show a1 + 1 + gi bs a1 = _; rw [g]; rfl⟩
  · have g := gi_at (bs := bs) (pre := pre) (c := 129) (suf := (c.length : Int) :: (c ++ r)) (x := a1) e hx
    have dr := drop_at (bs := bs) (pre := pre ++ [129]) (r := (c.length : Int) :: (c ++ r)) (x := a1 + 1) (by rw [e]; simp) (by rw [hx]; simp)
    simp only [List.length_cons, List.length_nil] at hlen ⊢
    have z : (c.length : Int) = foldS ((bs.drop (a1 + 1).toNat).take (gi bs a1 - 128).toNat) := by
      rw [dr, g]
      show _ = 256 * 0 + (c.length : Int)
      omega
    exact ⟨_, rdL_f (by omega) (by rw [g]; omega) (by rw [g]; omega) (by rw [g]; omega) z (by rw [g]; omega), by show a1 + 1 + (gi bs a1 - 128) + (c.length : Int) = _; rw [g]; omega⟩
  · have g := gi_at (bs := bs) (pre := pre) (c := 130) (suf := (c.length : Int) / 256 :: (c.length : Int) % 256 :: (c ++ r)) (x := a1) e hx
    have dr := drop_at (bs := bs) (pre := pre ++ [130]) (r := (c.length : Int) / 256 :: (c.length : Int) % 256 :: (c ++ r)) (x := a1 + 1) (by rw [e]; simp) (by rw [hx]; simp)
    simp only [List.length_cons, List.length_nil] at hlen ⊢
    have z : (c.length : Int) = foldS ((bs.drop (a1 + 1).toNat).take (gi bs a1 - 128).toNat) := by
      rw [dr, g]
      show _ = 256 * (256 * 0 + (c.length : Int) / 256) + (c.length : Int) % 256
      omega
    exact ⟨_, rdL_f (by omega) (by rw [g]; omega) (by rw [g]; omega) (by rw [g]; omega) z (by rw [g]; omega), by show a1 + 1 + (gi bs a1 - 128) + (c.length : Int) = _; rw [g]; omega⟩
  · have g := gi_at (bs := bs) (pre := pre) (c := 131) (suf := 0 :: (c.length : Int) / 256 :: (c.length : Int) % 256 :: (c ++ r)) (x := a1) e hx
    have dr := drop_at (bs := bs) (pre := pre ++ [131]) (r := 0 :: (c.length : Int) / 256 :: (c.length : Int) % 256 :: (c ++ r)) (x := a1 + 1) (by rw [e]; simp) (by rw [hx]; simp)
    simp only [List.length_cons, List.length_nil] at hlen ⊢
    have z : (c.length : Int) = foldS ((bs.drop (a1 + 1).toNat).take (gi bs a1 - 128).toNat) := by
      rw [dr, g]
      show _ = 256 * (256 * (256 * 0 + 0) + (c.length : Int) / 256) + (c.length : Int) % 256
      omega
    exact ⟨_, rdL_f (by omega) (by rw [g]; omega) (by rw [g]; omega) (by rw [g]; omega) z (by rw [g]; omega), by show a1 + 1 + (gi bs a1 - 128) + (c.length : Int) = _; rw [g]; omega⟩
/-- an element without a length: the parts and the end -/
theorem rdEnd_good {bs r : List Int} {W : Int} {ch : Int → Option Int} (hW : W = (bs.length : Int)) : ∀ {cs : List (List Int)} {pre : List Int} {x : Int} {F : Nat}, (∀ c ∈ cs, ∃ y t, c = y :: t ∧ y ≠ 0) →
    (∀ c ∈ cs, ∀ p q : List Int, bs = p ++ (c ++ q) → ch (p.length : Int) = some ((p.length : Int) + (c.length : Int))) → bs = pre ++ (cs.flatten ++ (0 :: 0 :: r)) → x = (pre.length : Int) → W + 1 ≤ x + (F : Int) →
    rdEnd bs W ch F x = some (x + (cs.flatten.length : Int))
  | [], pre, x, F, _, _, e, hx, hF => by
    have hl : (bs.length : Int) = pre.length + 2 + r.length := by rw [e]; simp; omega
    obtain ⟨G, rfl⟩ : ∃ G, F = G + 1 := ⟨F - 1, by omega⟩
    rw [rdEnd_here (by omega) (gi_at (pre := pre) (suf := 0 :: r) e hx) (gi_at (pre := pre ++ [0]) (suf := r) (by rw [e]; simp) (by rw [hx]; simp))]
    simp
  | c :: cs, pre, x, F, h1, h2, e, hx, hF => by
    obtain ⟨y, t, hc, hy⟩ := h1 c (.head _)
    have e' : bs = pre ++ (c ++ (cs.flatten ++ (0 :: 0 :: r))) := by rw [e]; simp
    have g : gi bs x = y := gi_at (pre := pre) (suf := t ++ (cs.flatten ++ (0 :: 0 :: r))) (by rw [e', hc]; simp) hx
    have hl : (bs.length : Int) = pre.length + c.length + cs.flatten.length + 2 + r.length := by rw [e']; simp; omega
    obtain ⟨G, rfl⟩ : ∃ G, F = G + 1 := ⟨F - 1, by omega⟩
    have hcl : 1 ≤ c.length := by rw [hc]; simp
    rw [rdEnd_step (fun q => hy (by rw [← g]; exact q.2.1)) (by rw [hx]; exact h2 c (.head _) pre _ e'),
      rdEnd_good (r := r) hW (pre := pre ++ c) (x := (pre.length : Int) + c.length) (F := G) (fun c' h => h1 c' (.tail _ h)) (fun c' h => h2 c' (.tail _ h)) (by rw [e']; simp) (by simp) (by push_cast at hF ⊢; omega)]
    rw [hx]
    simp
    omega
/-- an element that the law built is read to its end -/
theorem elem_read {d : Nat} {c : List Int} (h : Elem d c) : ∀ {bs pre suf : List Int} {n : Nat}, bs = pre ++ (c ++ suf) → d < n → ∃ r, rd bs (bs.length : Int) n (pre.length : Int) = some r ∧ r.e = (pre.length : Int) + (c.length : Int) := by
  induction h with
  | @prim f lb c me d h1 h2 h3 h4 =>
    intro bs pre suf n e hn
    obtain ⟨m, rfl⟩ : ∃ m, n = m + 1 := ⟨n - 1, by omega⟩
    obtain ⟨x, r, hf, -⟩ := goodFirst_pos h1
    have hl : (bs.length : Int) = pre.length + f.length + lb.length + c.length + suf.length := by rw [e]; simp; omega
    have hfl : 1 ≤ f.length := by rw [hf]; simp
    obtain ⟨tag, hT, -⟩ := rdT_good (bs := bs) (pre := pre) (r := lb ++ (c ++ suf)) (W := bs.length) (x := pre.length) h1 (by rw [e]; simp) rfl rfl
    obtain ⟨dd, hd, he⟩ := rdL_good (bs := bs) (pre := pre ++ f) (r := suf) (W := bs.length) (a1 := pre.length + f.length) (first := gi bs pre.length) (tag := tag) (ch := fun y => (rd bs bs.length m y).map (·.e)) h2 h3 (by rw [e]; simp) (by simp) rfl
    exact ⟨dd, (rd_L (by omega) hT).trans hd, by rw [he]; simp; omega⟩
  | @indef0 f d h1 =>
    intro bs pre suf n e hn
    obtain ⟨m, rfl⟩ : ∃ m, n = m + 1 := ⟨n - 1, by omega⟩
    obtain ⟨x, r, hf, -⟩ := goodFirst_pos h1
    have hl : (bs.length : Int) = pre.length + f.length + 3 + suf.length := by rw [e]; simp; omega
    have hfl : 1 ≤ f.length := by rw [hf]; simp
    obtain ⟨tag, hT, hm⟩ := rdT_good (bs := bs) (pre := pre) (r := 128 :: 0 :: 0 :: suf) (W := bs.length) (x := pre.length) h1 (by rw [e]; simp) rfl rfl
    have g : gi bs (pre.length + f.length) = 128 := gi_at (pre := pre ++ f) (suf := 0 :: 0 :: suf) (by rw [e]; simp) (by simp)
    have hE := rdEnd_good (bs := bs) (r := suf) (W := bs.length) (ch := fun y => (rd bs bs.length m y).map (·.e)) rfl (cs := []) (pre := pre ++ f ++ [128]) (x := pre.length + f.length + 1) (F := (bs.length : Int).toNat + 1) (fun _ h => nomatch h) (fun _ h => nomatch h) (by rw [e]; simp) (by simp; omega) (by omega)
    refine ⟨_, (rd_L (by omega) hT).trans (rdL_c (by omega) g (by rw [hm]; decide) hE), ?_⟩
    show (pre.length : Int) + f.length + 1 + _ + 2 = _
    simp
    omega
  | @indef f cs d h1 h2 ih =>
    intro bs pre suf n e hn
    obtain ⟨m, rfl⟩ : ∃ m, n = m + 1 := ⟨n - 1, by omega⟩
    obtain ⟨x, r, hf, -⟩ := goodFirst_pos h1
    have hl : (bs.length : Int) = pre.length + f.length + 1 + cs.flatten.length + 2 + suf.length := by rw [e]; simp; omega
    have hfl : 1 ≤ f.length := by rw [hf]; simp
    obtain ⟨tag, hT, hm⟩ := rdT_good (bs := bs) (pre := pre) (r := 128 :: (cs.flatten ++ (0 :: 0 :: suf))) (W := bs.length) (x := pre.length) h1 (by rw [e]; simp) rfl rfl
    have g : gi bs (pre.length + f.length) = 128 := gi_at (pre := pre ++ f) (suf := cs.flatten ++ (0 :: 0 :: suf)) (by rw [e]; simp) (by simp)
    have hE := rdEnd_good (bs := bs) (r := suf) (W := bs.length) (ch := fun y => (rd bs bs.length m y).map (·.e)) rfl (cs := cs) (pre := pre ++ f ++ [128]) (x := pre.length + f.length + 1) (F := (bs.length : Int).toNat + 1) (fun c hc => elem_pos (h2 c hc)) (fun c hc p q he => by
      obtain ⟨rr, hr, hre⟩ := ih c hc (bs := bs) (pre := p) (suf := q) (n := m) he (by omega)
      rw [hr]
      exact congrArg some hre) (by rw [e]; simp) (by simp; omega) (by omega)
    refine ⟨_, (rd_L (by omega) hT).trans (rdL_c (by omega) g (by rw [hm]; decide) hE), ?_⟩
    show (pre.length : Int) + f.length + 1 + _ + 2 = _
    simp
    omega
end

section
variable {prog : Program} {w : World} {mean : ExcName → Option Value} {mg mb : Str → Option Value}
def PostSt (r : Value) (own' : List (Addr × Obj)) : Prop := ∃ st ls o1 o2, r = .ref st ∧ @Ne Nat st ls ∧ StB ls true o1 o2 ∧ own' = [(st, o1), (ls, o2)]
set_option maxHeartbeats 8000000 in
theorem start_spec {dp un : Nat} {gd : Option (List Code)} {base : Heap} {envs : List Env} {s : Shared} {Q E : Value → Shared → Prop} {sc : Addr} {vs : List Value} {ns : List Int}
   (C : At w mean mg mb (ktA dp un gd envs) base s.heap envs) (hL : s.heap.IsList sc vs.toArray) (hI : IntsAre vs ns) (hl : ns.length ≤ 63) (hd : dp + 3 < recursionLimit) (hu : un + 8 * 3 + 200 < cLine)
   (ret : ∀ r own' h' tk', Kp [] s.heap h' → LedAt s.heap h' [] own' → PostSt r own' → Q r { s with heap := h', toks := tk' }) :
   wpAny (model prog w) (ktA dp un gd envs) (call (.ref 36) [.ref sc] []) Q E s := by
  refine hc_enter (own := []) C (fun _ h => nomatch h) (by omega) (by k_dflt k_is) (by k_dflt k_is) (fun s hX => BindsTo.of_eq rfl) (locs rfl) rfl rfl rfl (by decide) ?_
  intro g L h₁ F N B X T KG GS
  have hL' : g.IsList sc vs.toArray := by
    obtain ⟨o, h1, h2⟩ := hL
    exact ⟨o, KG _ _ (fun h => nomatch h) h1, h2⟩
  dsimp only
  k_steps
  all_goals (try dsimp only)
  rename News _ _ _ _ => N9
  rename Fr _ _ _ _ => F9
  rename IntsAre _ (List.map _ _) => hI8
  refine fin_ret (own := []) ret KG F9 (news_sub N9 (List.forall_mem_cons.mpr ⟨.head _, List.forall_mem_cons.mpr ⟨.tail _ (.head _), List.forall_mem_nil _⟩⟩)) ⟨_, _, _, _, rfl, ?_, ⟨0, 7 + (ns.length : Int), _, _, _, _, _, rfl, rfl, ⟨_, hI8, ?_, ?_, by omega, by omega, by omega, by omega⟩⟩, rfl⟩
  · omega
  · intro x hx
    obtain ⟨y, _, rfl⟩ := List.mem_map.mp hx
    exact ⟨mfmod_lo (by decide), mfmod_lt (by decide)⟩
  · rw [List.length_map, List.length_take]; omega
theorem use_start {sc : Addr} {vs : List Value} {ns : List Int}
    {dp un : Nat} {gd : Option (List Code)} {base g : Heap} {envs : List Env} {s : Shared} {Q E : Value → Shared → Prop} {L : Addr} {m : Str → Option Value} {cn : Str} {cs : Scope} {a : Addr} {ccd : Value} {news : List (Addr × Obj)}
    (C : At w mean mg mb (ktA dp un gd envs) base g envs) (F : Fr g L s.heap m) (N : News g L s.heap news) (hk : cs.kind = .function) (hL : g.IsList sc vs.toArray) (hI : IntsAre vs ns) (hl : ns.length ≤ 63)
    (hd' : dp + 4 < recursionLimit) (hu : un + 227 < cLine)
    (ret : ∀ st ls o1 o2 h' tk', @Ne Nat st ls → NeAll st news → NeAll ls news → StB ls true o1 o2 → Fr g L h' m → News g L h' ((st, o1) :: (ls, o2) :: news) → Q (.ref st) { s with heap := h', toks := tk' }) :
    wpAny (model prog w) ((ktA dp un gd envs).deeper (envOf cn cs L a ccd)) (call (.ref 36) [.ref sc] []) Q E s := by
  have B := C.B.push (name := cn) (scope := cs) (a := a) (cd := ccd) F hk
  have hC : At w mean mg mb (ktA (dp + 1) (un + 3) gd (envOf cn cs L a ccd :: envs)) base s.heap (envOf cn cs L a ccd :: envs) := ⟨⟨rfl, B.stays, B.frames⟩, C.X, C.T⟩
  have hL' : s.heap.IsList sc vs.toArray := by
    obtain ⟨o, h1, h2⟩ := hL
    exact ⟨o, F.keep _ _ h1, h2⟩
  refine start_spec hC hL' hI hl hd' hu fun r own' h' tk' hK hLd hP => ?_
  obtain ⟨st, ls, o1, o2, rfl, hsl, hS, rfl⟩ := hP
  obtain ⟨oL, es, ep, hoL, hLr⟩ := F.ns
  have hK' : ∀ b o, s.heap.get? b = some o → h'.get? b = some o := fun b o e => hK b o (fun h => nomatch h) e
  have nw : ∀ p, p ∈ [(st, o1), (ls, o2)] → h'.get? p.1 = some p.2 ∧ s.heap.get? p.1 = none := fun p hp => by
    obtain ⟨x1, x2⟩ := hLd p hp
    exact ⟨x1, x2.elim (fun q => nomatch q) id⟩
  have ne : ∀ p, p ∈ [(st, o1), (ls, o2)] → NeAll p.1 news := fun p hp => neAll_of fun q hq e => by
    have x := (N q hq).1
    have y := (nw p hp).2
    rw [e, y] at x; cases x
  refine ret st ls o1 o2 h' tk' hsl (ne (st, o1) (by simp)) (ne (ls, o2) (by simp)) hS ⟨⟨oL, es, ep, hK' L oL hoL, hLr⟩, fun b o e => hK' b o (F.keep b o e), F.above⟩ fun p hp => ?_
  have old : ∀ p, p ∈ [(st, o1), (ls, o2)] → h'.get? p.1 = some p.2 ∧ p.1 ≠ L ∧ g.get? p.1 = none := fun p hp => by
    obtain ⟨x1, x2⟩ := nw p hp
    refine ⟨x1, fun e => ?_, ?_⟩
    · rw [e, hoL] at x2; cases x2
    · cases q : g.get? p.1 with
      | none => rfl
      | some o => rw [F.keep _ _ q] at x2; cases x2
  rcases List.mem_cons.mp hp with rfl | hp
  · exact old _ (by simp)
  · rcases List.mem_cons.mp hp with rfl | hp
    · exact old _ (by simp)
    · exact ⟨hK' _ _ (N p hp).1, (N p hp).2⟩
end

theorem getD_app (a b : List Int) (d : Int) (n : Nat) (h : n < a.length) : (a ++ b).getD n d = a.getD n d := by
  rw [List.getD_eq_getElem?_getD, List.getD_eq_getElem?_getD, List.getElem?_append_left h]
/-- the row as the law built it, and the places between its elements -/
inductive Built : List Int → List Int → Prop
  | start : Built [] [0]
  | snoc {r es c : List Int} {n : Int} : Built r es → Elem 10 c → n = ((r ++ c).length : Int) → Built (r ++ c) (es ++ [n])
theorem Built.at {r es : List Int} (h : Built r es) : ∃ z, es = z ++ [(r.length : Int)] ∧ ∀ k, k < z.length → ∃ pre c suf, r = pre ++ (c ++ suf) ∧ (pre.length : Int) = es.getD k 0 ∧ (pre.length : Int) + (c.length : Int) = es.getD (k + 1) 0 ∧ Elem 10 c := by
  induction h with
  | start => exact ⟨[], rfl, fun k hk => absurd hk (Nat.not_lt_zero k)⟩
  | @snoc r es c n h hc hn ih =>
    obtain ⟨z, e, ih⟩ := ih
    refine ⟨es, by rw [hn], fun k hk => ?_⟩
    rcases Nat.lt_or_ge k z.length with q | q
    · obtain ⟨pre, c', suf, h1, h2, h3, h4⟩ := ih k q
      refine ⟨pre, c', suf ++ c, by rw [h1]; simp, ?_, ?_, h4⟩
      · rw [h2, getD_app _ _ _ _ hk]
      · rw [h3, getD_app _ _ _ _ (by rw [e]; simp; omega)]
    · have hk' : k = z.length := by rw [e] at hk; simp at hk; omega
      refine ⟨r, c, [], by simp, ?_, ?_, hc⟩
      · rw [getD_app _ _ _ _ hk, e, hk']
        simp
      · have : k + 1 = es.length := by rw [e, hk']; simp
        rw [this, hn]
        simp
def EndsIn (W : Int) (es : List Int) : Prop := ∀ e ∈ es, 0 ≤ e ∧ e ≤ W
theorem EndsIn.snoc {W W' n : Int} {es : List Int} (h : EndsIn W es) (hw : W ≤ W') (h0 : 0 ≤ n) (h1 : n ≤ W') : EndsIn W' (es ++ [n]) := fun e he => by
  rcases List.mem_append.mp he with he | he
  · have := h e he; omega
  · rw [List.mem_singleton.mp he]; exact ⟨h0, h1⟩
def Nx (f : Flow) : Prop := f = .next
/-- behind a statement: the state, told anew -/
def CutEnd {σ : Type} (h₀ : Heap) (L : Addr) (Led : σ → List (Addr × Obj)) (ps : σ → List (Str × Value)) (P : σ → Prop) (s s' : Shared) : Prop :=
  ∃ (c : σ) (h' : Heap) (tk : Nat) (m' : Str → Option Value) (news' : List (Addr × Obj)), s' = { s with heap := h', toks := tk } ∧ Fr h₀ L h' m' ∧ News h₀ L h' news' ∧ (∀ p ∈ Led c, p ∈ news') ∧ (∀ p ∈ ps c, m' p.1 = some p.2) ∧ P c
theorem cut_end {σ : Type} {h₀ h' : Heap} {L : Addr} {Led : σ → List (Addr × Obj)} {ps : σ → List (Str × Value)} {P : σ → Prop} {s : Shared} {tk : Nat} {m' : Str → Option Value} {news' : List (Addr × Obj)} (c : σ) (F : Fr h₀ L h' m') (N : News h₀ L h' news')
    (hk : ∀ p ∈ ps c, m' p.1 = some p.2) (hp : P c) (hn : ∀ p ∈ Led c, p ∈ news') : Fin (Nx Flow.next ∧ CutEnd h₀ L Led ps P s { s with heap := h', toks := tk }) := ⟨rfl, c, h', tk, m', news', rfl, F, N, hn, hk, hp⟩
theorem cut {σ : Type} {M : Model} {A : Around} {env : Env} {st : Stmt} {rest : List Stmt} {h₀ : Heap} {L : Addr} {Q : Flow → Shared → Prop} {E : Value → Shared → Prop} {s : Shared} (Led : σ → List (Addr × Obj)) (ps : σ → List (Str × Value)) (P : σ → Prop)
    (h1 : wpAny M A (exec st env) (fun f s' => Fin (Nx f ∧ CutEnd h₀ L Led ps P s s')) E s)
    (h2 : ∀ c u h tk, P c → Fr h₀ L h (kstB u (ps c)) → News h₀ L h (Led c) → wpAny M A (execs rest env) Q E { s with heap := h, toks := tk }) : wpAny M A (execs (st :: rest) env) Q E s := by
  refine wpAny_execs_cons (wpAny_mono h1 (fun f s' p => ?_) fun _ _ x => x)
  obtain ⟨rfl, c, h', tk, m', news', rfl, F, N, hn, hk, hp⟩ := p
  exact h2 c _ h' tk hp (ksw_fr (stored := []) (m₀ := m') hk (fun _ _ _ => rfl) F) (news_sub N hn)
theorem cut2 {σ : Type} {M : Model} {A : Around} {env : Env} {st st2 : Stmt} {rest : List Stmt} {h₀ : Heap} {L : Addr} {Q : Flow → Shared → Prop} {E : Value → Shared → Prop} {s : Shared} (Led : σ → List (Addr × Obj)) (ps : σ → List (Str × Value)) (P : σ → Prop)
    (h1 : wpAny M A (exec st env) (fun f s' => match f with | .next => wpAny M A (exec st2 env) (fun f s'' => Fin (Nx f ∧ CutEnd h₀ L Led ps P s s'')) E s' | f => Q f s') E s)
    (h2 : ∀ c u h tk, P c → Fr h₀ L h (kstB u (ps c)) → News h₀ L h (Led c) → wpAny M A (execs rest env) Q E { s with heap := h, toks := tk }) : wpAny M A (execs (st :: st2 :: rest) env) Q E s := by
  refine wpAny_execs_cons (wpAny_mono h1 (fun f s' p => ?_) fun _ _ x => x)
  cases f with
  | next =>
    refine wpAny_execs_cons (wpAny_mono p (fun f s'' p => ?_) fun _ _ x => x)
    obtain ⟨rfl, c, h', tk, m', news', rfl, F, N, hn, hk, hp⟩ := p
    exact h2 c _ h' tk hp (ksw_fr (stored := []) (m₀ := m') hk (fun _ _ _ => rfl) F) (news_sub N hn)
  | brk => exact p
  | cont => exact p
  | ret v => exact p
theorem cut3 {σ : Type} {M : Model} {A : Around} {env : Env} {st st2 st3 : Stmt} {rest : List Stmt} {h₀ : Heap} {L : Addr} {Q : Flow → Shared → Prop} {E : Value → Shared → Prop} {s : Shared} (Led : σ → List (Addr × Obj)) (ps : σ → List (Str × Value)) (P : σ → Prop)
    (h1 : wpAny M A (exec st env) (fun f s' => match f with | .next => wpAny M A (exec st2 env) (fun f s'' => match f with | .next => wpAny M A (exec st3 env) (fun f s'' => Fin (Nx f ∧ CutEnd h₀ L Led ps P s s'')) E s'' | f => Q f s'') E s' | f => Q f s') E s)
    (h2 : ∀ c u h tk, P c → Fr h₀ L h (kstB u (ps c)) → News h₀ L h (Led c) → wpAny M A (execs rest env) Q E { s with heap := h, toks := tk }) : wpAny M A (execs (st :: st2 :: st3 :: rest) env) Q E s := by
  refine wpAny_execs_cons (wpAny_mono h1 (fun f s' p => ?_) fun _ _ x => x)
  cases f with
  | next =>
    refine wpAny_execs_cons (wpAny_mono p (fun f s'' p => ?_) fun _ _ x => x)
    cases f with
    | next =>
      refine wpAny_execs_cons (wpAny_mono p (fun f s'' p => ?_) fun _ _ x => x)
      obtain ⟨rfl, c, h', tk, m', news', rfl, F, N, hn, hk, hp⟩ := p
      exact h2 c _ h' tk hp (ksw_fr (stored := []) (m₀ := m') hk (fun _ _ _ => rfl) F) (news_sub N hn)
    | brk => exact p
    | cont => exact p
    | ret v => exact p
  | brk => exact p
  | cont => exact p
  | ret v => exact p
section
variable {prog : Program} {w : World} {A : Around} {E : Value → Shared → Prop} {s : Shared} {h₀ : Heap} {L l : Addr} {m : Str → Option Value} {news : List (Addr × Obj)} {vs : List Value} {ns : List Int} {hi : Int} {tu : Tok} {value slice : PySem.Expr} {Q : Value → Shared → Prop}
theorem slice_U (F : Fr h₀ L s.heap m) (N : News h₀ L s.heap news) (hl : s.heap.IsList l vs.toArray) (hi' : IntsAre vs ns) (h0 : 0 ≤ hi) (hz : ns.length ≤ 1000)
    (h : ∀ D ws h', Fr h₀ L h' m → News h₀ L h' ((D, listOf (List.toArray ws) 0) :: news) → (∀ p ∈ news, p.1 < D) → IntsAre ws (ns.take hi.toNat) → Q (.ref D) { s with heap := h' })
    (hs : subscripted slice false (.ref l) (.ref s.heap.objs.size) = operate [.ref s.heap.objs.size, .ref l] (getItem (.ref l) (.ref s.heap.objs.size))) (ht : ∀ r, letTemporaryGo value (.ref l) r = pure ()) :
    wpAny (model prog w) A (subscriptTail value slice (.ref l) (.ref s.heap.objs.size)) Q E { s with heap := s.heap.push { cls := .type "slice", data := .fields #[.none, .int hi tu, .none] } } :=
  kmk_slice_ints F N hl (by constructor) (by constructor) hi' (kmk_upto hi' h0) rfl (fun D ws h' F' N' l1 hI _ _ => h D ws h' F' N' l1 hI) hs ht (by rw [List.size_toArray, hi'.length, sizeLine_eq]; omega)
end
section
variable {prog : Program} {w : World} {mean : ExcName → Option Value} {mg mb : Str → Option Value}
theorem use_asked {k : Nat} (IH : AskC prog w mean mg mb k) {b : Array UInt8} {ro : Addr} {vs : List Value} {bs : List Int} {nr : Nat} {W x dep : Int} {t0 t1 t2 t3 : Tok}
    {dp un : Nat} {gd : Option (List Code)} {base g : Heap} {s : Shared} {Q E : Value → Shared → Prop} {L : Addr} {m : Str → Option Value} {cn : Str} {cs : Scope} {a : Addr} {ccd : Value} {news : List (Addr × Obj)}
    (C : At w mean mg mb (ktA dp un gd []) base g []) (F : Fr g L s.heap m) (N : News g L s.heap news) (hk : cs.kind = .function) (hm : (ro, lsO vs nr) ∈ news)
    (hb : KBw.bInts b = bs) (hV : IntsAre vs bs) (hB : BytesL bs) (hl : bs.length ≤ 1000) (hW0 : 0 ≤ W) (hW : W ≤ bs.length) (hx0 : 0 ≤ x) (hx1 : x ≤ 3000) (hd0 : 0 ≤ dep) (hd9 : dep ≤ 100) (hdk : (11 - dep).toNat = k)
    (hd' : dp + 1 + (5 + k) < recursionLimit) (hu : un + 3 + 8 * (5 + k) + 200 < cLine)
    (ret : ∀ h' tk', Fr g L h' m → News g L h' news → Q (.bool true) { s with heap := h', toks := tk' }) :
    wpAny (model prog w) ((ktA dp un gd []).deeper (envOf cn cs L a ccd)) (call (.ref 99) [.bytes b t0, .ref ro, .int W t1, .int x t2, .int dep t3] []) Q E s := by
  have B := C.B.push (name := cn) (scope := cs) (a := a) (cd := ccd) F hk
  have hC : At w mean mg mb (ktA (dp + 1) (un + 3) gd [envOf cn cs L a ccd]) base s.heap [envOf cn cs L a ccd] := ⟨⟨rfl, B.stays, B.frames⟩, C.X, C.T⟩
  have O := own_of_news (env := envOf cn cs L a ccd) (news := [(ro, lsO vs nr)]) C.B (fun p hp => by rw [List.mem_singleton.mp hp]; exact N _ hm) rfl
  have fr : ∀ b, b ≠ L → b ∉ [envOf cn cs L a ccd].filterMap (·.frame) := fun b hb q => (kts_mem (outer := []) q).elim hb fun q => nomatch q
  refine IH b ro vs bs nr W x dep t0 t1 t2 t3 hb hV hB hl hW0 hW hx0 hx1 hd0 hd9 hdk (dp + 1) (un + 3) gd base _ s Q E hC O hd' hu fun h' tk' U => ret h' tk' ⟨U.2.ns F.ns, fun b o e => U.1 b o (fr b fun q => ?_) (F.keep b o e), F.above⟩ fun p hp => ⟨U.1 _ _ (fr _ (N p hp).2.1) (N p hp).1, (N p hp).2⟩
  rw [q] at e
  exact absurd (Nat.lt_of_lt_of_le (Heap.lt_size e) F.above) (Nat.lt_irrefl _)
theorem body_eq {P : Str → List Stmt → Scope → Prop} {oc oc' : Value} {od od' : Option Addr} {osl osl' : Array (Option Value)} {name name' qual qual' : Str} {params params' : Arguments} {body body' : List Stmt} {scope scope' : Scope} {dV kV doc pm cdv ct dV' kV' doc' pm' cdv' ct' : Value} {an an' : Option Addr}
    (e : (hd.heap_39 w.params).lookup 106 = some ⟨oc, od, .func (fnOf name qual params body scope dV kV doc pm an cdv ct), osl⟩)
    (hl : (hd.heap_39 w.params).lookup 106 = some ⟨oc', od', .func (fnOf name' qual' params' body' scope' dV' kV' doc' pm' an' cdv' ct'), osl'⟩) (h : P qual body scope) : P qual' body' scope' := by
  rw [e] at hl
  injection hl with hl
  injection hl with _ _ hl _
  injection hl with hl
  injection hl with h1 h2 h3 h4 h5
  injection h4 with h4
  subst h2 h4 h5
  exact h
end

section
variable {prog : Program} {w : World} {A : Around} {E : Value → Shared → Prop} {s : Shared} {h₀ : Heap} {L t : Addr} {m : Str → Option Value} {news : List (Addr × Obj)} {Q : Value → Shared → Prop}
/-- one of three numbers, by a place that is not known -/
theorem item_3 {value slice : PySem.Expr} {x y z k : Int} {tx ty tz u : Tok} (N : News h₀ L s.heap news) (hm : (t, tupO [.int x tx, .int y ty, .int z tz]) ∈ news) (h0 : 0 ≤ k) (h1 : k < 3)
    (h : ∀ v tv, (v = x ∨ v = y ∨ v = z) → Q (.int v tv) s) (hs : subscripted slice false (.ref t) (.int k u) = operate [.ref t, .int k u] (getItem (.ref t) (.int k u))) :
    wpAny (model prog w) A (subscriptTail value slice (.ref t) (.int k u)) Q E s := by
  have ht : IsTup s.heap t [Value.int x tx, .int y ty, .int z tz].toArray := ⟨_, (N _ hm).1, rfl, _, rfl⟩
  obtain rfl | rfl | rfl : k = 0 ∨ k = 1 ∨ k = 2 := by omega
  · exact item_tupleT ht (by decide) (by decide) (j := 0) rfl rfl (h _ _ (.inl rfl)) hs
  · exact item_tupleT ht (by decide) (by decide) (j := 1) rfl rfl (h _ _ (.inr (.inl rfl))) hs
  · exact item_tupleT ht (by decide) (by decide) (j := 2) rfl rfl (h _ _ (.inr (.inr rfl))) hs
theorem min_V {a b : Int} {t u : Tok} (hh : A.handled = none) (F : Fr h₀ L s.heap m) (N : News h₀ L s.heap news)
    (h : ∀ v tv h' tk, (v = a ∨ v = b) → v ≤ a → v ≤ b → Fr h₀ L h' m → News h₀ L h' news → Q (.int v tv) { s with heap := h', toks := tk }) :
    wpAny (model prog w) A (call (.builtin "min") [.int a t, .int b u]) Q E s :=
  min_two_N hh F N fun h' tk F' N' => by
    by_cases c : b < a
    · rw [if_pos c, if_pos c]; exact h _ _ h' tk (.inr rfl) (by omega) (by omega) F' N'
    · rw [if_neg c, if_neg c]; exact h _ _ h' tk (.inl rfl) (by omega) (by omega) F' N'
end
theorem getD3 {a b c lo hi : Int} (n : Nat) (ha : lo ≤ a ∧ a ≤ hi) (hb : lo ≤ b ∧ b ≤ hi) (hc : lo ≤ c ∧ c ≤ hi) (hz : lo ≤ 0 ∧ 0 ≤ hi) : lo ≤ [a, b, c].getD n 0 ∧ [a, b, c].getD n 0 ≤ hi :=
  getD_all (P := fun x => lo ≤ x ∧ x ≤ hi) (fun x hx => by
    rcases List.mem_cons.mp hx with e | hx
    · rw [e]; exact ha
    · rcases List.mem_cons.mp hx with e | hx
      · rw [e]; exact hb
      · rw [List.mem_singleton.mp hx]; exact hc) hz n
theorem min_lo {es : List Int} {v a j : Int} {n : Nat} (hE0 : ∀ n : Nat, 0 ≤ es.getD n 0 ∧ es.getD n 0 ≤ 604) (h : v = a ∨ v = es.getD n 0 + j) (ha : 0 ≤ a) (hj : 0 ≤ j) : 0 ≤ v := by
  have := hE0 n
  omega
section
variable {prog : Program} {w : World} {mean : ExcName → Option Value} {mg mb : Str → Option Value}
theorem use_askedA (HA : ∀ k, k ≤ 11 → AskC prog w mean mg mb k) {b : Array UInt8} {ro : Addr} {vs : List Value} {bs : List Int} {nr : Nat} {W x dep : Int} {t0 t1 t2 t3 : Tok}
    {dp un : Nat} {gd : Option (List Code)} {base g : Heap} {s : Shared} {Q E : Value → Shared → Prop} {L : Addr} {m : Str → Option Value} {cn : Str} {cs : Scope} {a : Addr} {ccd : Value} {news : List (Addr × Obj)}
    (C : At w mean mg mb (ktA dp un gd []) base g []) (F : Fr g L s.heap m) (N : News g L s.heap news) (hk : cs.kind = .function) (hm : (ro, lsO vs nr) ∈ news)
    (hb : KBw.bInts b = bs) (hV : IntsAre vs bs) (hB : BytesL bs) (hl : bs.length ≤ 1000) (hd' : dp + 40 < recursionLimit) (hu : un + 1000 < cLine) (hW : 0 ≤ W ∧ W ≤ bs.length) (hx : 0 ≤ x ∧ x ≤ 3000) (hd : 0 ≤ dep ∧ dep ≤ 100)
    (ret : ∀ h' tk', Fr g L h' m → News g L h' news → Q (.bool true) { s with heap := h', toks := tk' }) :
    wpAny (model prog w) ((ktA dp un gd []).deeper (envOf cn cs L a ccd)) (call (.ref 99) [.bytes b t0, .ref ro, .int W t1, .int x t2, .int dep t3] []) Q E s :=
  use_asked (HA (11 - dep).toNat (by omega)) C F N hk hm hb hV hB hl hW.1 hW.2 hx.1 hx.2 hd.1 hd.2 rfl (by omega) (by omega) ret
end
--MACRO
local macro_rules | `(tactic| walk_at "subscriptTail Tuple Call ref int") => `(tactic| (k_here; (with_reducible show wpAny _ _ (subscriptTail _ _ (Value.ref _) (Value.int _ _)) _ _ _); k_dflt (refine' item_3 ?N ?hm ?h0 ?h1 ?_ ?hs; (case N => k_asm); (case hm => k_mem); (case h0 => omega); (case h1 => omega); (case hs => with_unfolding_all rfl)); intro v' tv' hv'; (try dsimp only)))
local macro_rules | `(tactic| walk_at "call builtin:min") => `(tactic| (k_here; (with_reducible show wpAny _ _ (call (Value.builtin _) [Value.int _ _, Value.int _ _]) _ _ _); k_dflt (refine' min_V ?hh ?F ?N ?_; (case hh => with_unfolding_all rfl); (case F => k_asm); (case N => k_asm)); intro v' tv' h' tk' hv1' hv2' hv3' F' N'; (try dsimp only); (try k_fold); (try k_sweep)))
local macro_rules | `(tactic| walk_at "call type:range") => `(tactic| ((with_reducible show wpAny _ _ (call (Value.type "range") [Value.int _ _]) _ _ _); (rename Fr _ _ _ _ => F'); (rename News _ _ _ _ => N'); (with_unfolding_all refine range1_rows F' N' ?_); intro _ _ _ _ _ hR' F' N' _))
local macro_rules | `(tactic| walk_at "subscriptTail Name Slice ref ref") => `(tactic| (k_here; (with_reducible show wpAny _ _ (subscriptTail _ (PySem.Expr.Slice none (some _) none _) (Value.ref _) (Value.ref _)) _ _ _); k_dflt (refine' slice_U (s := ⟨_, _, _, _, _⟩) ?F ?N ?l ?i ?m0 ?z ?_ ?s ?t; (case F => k_asm); (case N => k_asm); (case l => kmk_list); (case i => l_ints); (case m0 => omega); (case z => omega); (case s => with_unfolding_all rfl); (case t => kmk_pure)); intro D' ws' h' F' N' l1 hI'; (try k_lt l1); (try k_sweep)))
local macro_rules | `(tactic| walk_at "call type:bytes") => `(tactic| (k_here; (with_reducible show wpAny _ _ (call (Value.type "bytes") [Value.ref _]) _ _ _); (with_reducible rename BytesL _ => hB'); k_dflt (refine' KBa.make_K ?kbaF ?kbaN ?kbah ?kbal ?kbai ?kbar ?kban ?_; (case kbaF => k_asm); (case kbaN => k_asm); (case kbah => rfl); (case kbal => kba_isList); (case kbai => kba_listInts); (case kbar => exact fun x hx => hB' x hx); (case kban => omega)); intro h' t' k' F' N' kbaIn; (try dsimp only); (try k_fold)))
local macro_rules | `(tactic| walk_at "m_chain") => `(tactic| (
  (with_reducible show wpAny _ _ (call (Value.ref 78) _) _ _ _);
  (with_reducible rename StB _ _ _ _ => hSt');
  k_dflt (refine' use_list0 (chain_spec ?hsl hSt') ?C ?F ?N ?hk ?p1 ?p2 ?hd ?hu ?_; (case C => k_asm); (case F => k_asm); (case N => k_asm); (case hk => rfl); (case p1 => walk_at "m_pick"); (case p2 => walk_at "m_pick"); (case hsl => omega); (case hd => omega); (case hu => omega));
  clear hSt';
  intro a' o1' o2' n' bs' vs' fl' h' tk' hSt' ha1' ha2' ha3' hI' hB' hZ' F' N';
  (simp only [NeAll, and_true] at ha3'); (obtain ⟨hl1', hl2', hZ'⟩ := hZ');
  (try dsimp only); (try k_fold); (try k_sweep)))
local macro_rules | `(tactic| walk_at "m_start") => `(tactic| (
  (with_reducible show wpAny _ _ (call (Value.ref 36) _) _ _ _);
  k_dflt (refine' use_start ?C ?F ?N ?hk ?l ?i ?z ?hd ?hu ?_; (case C => k_asm); (case F => k_asm); (case N => k_asm); (case hk => rfl); (case l => assumption); (case i => assumption); (case z => omega); (case hd => omega); (case hu => omega));
  intro st' ls' o1' o2' h' tk' hsl' hn1' hn2' hSt' F' N'; (simp only [NeAll, and_true] at hn1' hn2'); (try dsimp only); (try k_fold)))
local macro_rules | `(tactic| walk_at "m_parse3") => `(tactic| (
  (with_reducible show wpAny _ _ (call (Value.ref 30) _ _) _ _ _);
  (with_reducible rename ParseC _ _ _ _ _ _ => IH');
  (rename rd _ _ _ _ = some _ => hs');
  k_dflt (refine' use_parse IH' ?bd ?C ?F ?N ?hk ?b ?bb ?l1 ?l2 ?l3 ?l4 ?l5 ?l6 ?l7 ?l8 ?hd ?hu ?rS ?rR; (case bd => exact bind_3); (case C => k_asm); (case F => k_asm); (case N => k_asm); (case hk => rfl); (case b => assumption); (case bb => k_asm); (case l1 => omega); (case l2 => omega); (case l3 => omega); (case l4 => omega); (case l5 => omega); (case l6 => omega); (case l7 => omega); (case l8 => rfl); (case hd => omega); (case hu => omega));
  (case' rS => (intro r' own' h' tk' hP' hn' F' N'; (unfold PostP at hP'); (obtain ⟨d', hr', hPt', hPf'⟩ := hP'; clear hPt' hn'); (obtain ⟨a', t', b1', b2', b3', u1', u2', u3', u4', u5', u6', u7', hra', hat', hro', hb1', hb2', hb3'⟩ := hPf' rfl; clear hPf'; subst hra' hro'); (have hrd' := Option.some.inj (hs'.symm.trans hr')); clear hr'; subst hrd'; (simp only [List.cons_append, List.nil_append, List.append_nil] at N'); (try dsimp only); (try k_fold); (try k_sweep)));
  (case' rR => (intro e' t' vs' h' tk' hr' R' U'; exfalso; rw [hs'] at hr'; cases hr'))))
local macro_rules | `(tactic| walk_at "call ref") => `(tactic| first | walk_at "m_take" | walk_at "m_some" | walk_at "m_grow" | walk_at "m_chain" | walk_at "m_start" | walk_at "m_parse3" | walk_at "m_asked")
--END
section
variable {prog : Program} {w : World} {mean : ExcName → Option Value} {mg mb : Str → Option Value}
set_option maxHeartbeats 8000000 in
/-- the last two statements of the law: four places, then the whole -/
theorem law_tail {oc : Value} {od : Option Addr} {osl : Array (Option Value)} {name qual : Str} {params : Arguments} {body : List Stmt} {scope : Scope} {dV kV doc pm cdv ct : Value} {an : Option Addr}
    (hl : (hd.heap_39 w.params).lookup 106 = some ⟨oc, od, .func (fnOf name qual params body scope dV kV doc pm an cdv ct), osl⟩)
    {dp un : Nat} {gd : Option (List Code)} {base g h : Heap} {s : Shared} {tk : Nat} {Q : Flow → Shared → Prop} {E : Value → Shared → Prop} {L a st ls ra wa : Addr} {cd : Value} {vs ws : List Value} {bs es : List Int} {n wm : Nat} {fl : Bool} {o1 o2 : Obj} {u : Str → Option Value} {sp : Int} {tsp tb tz : Tok}
    (C : At w mean mg mb (ktA dp un gd []) base g []) (hd : dp + 40 < recursionLimit) (hu : un + 1000 < cLine) (hsl : @Ne Nat st ls) (hS : StB ls fl o1 o2) (hV : IntsAre vs bs) (hB : BytesL bs) (hl2 : bs.length ≤ 607) (hW : IntsAre ws es) (he1 : 2 ≤ es.length) (he2 : es.length ≤ 6) (hes : ∀ e ∈ es, 0 ≤ e ∧ e ≤ 604)
    (m1 : @Ne Nat wa st) (m2 : @Ne Nat wa ls) (n1 : @Ne Nat ra st) (n2 : @Ne Nat ra ls) (n3 : @Ne Nat ra wa) (hb : KBw.bInts (byteArr bs) = bs)
    (F : Fr g L h (kstB u [(Str.ofString "state", .ref st), (Str.ofString "row", .ref ra), (Str.ofString "whole", .ref wa), (Str.ofString "spoil", .int sp tsp), (Str.ofString "octets", .bytes (byteArr bs) tb), (Str.ofString "size", .int (bs.length : Int) tz)]))
    (N : News g L h [(st, o1), (ls, o2), (ra, lsO vs n), (wa, lsO ws wm)])
    (ret : ∀ h' tk' m', Fr g L h' m' → Q (.ret (.bool true)) { s with heap := h', toks := tk' }) :
    wpAny (model prog w) ((ktA dp un gd []).deeper (envOf qual scope L a cd)) (execs (body.drop 13) (envOf qual scope L a cd)) Q (fun e s' => wpAny (model prog w) ((ktA dp un gd []).deeper (envOf qual scope L a cd)) (leaving (envOf qual scope L a cd) e) (fun _ s'' => E e s'') (fun e' s'' => E e' s'') s') { s with heap := h, toks := tk } := by
  refine' body_eq (P := fun qual body scope => wpAny (model prog w) ((ktA dp un gd []).deeper (envOf qual scope L a cd)) (execs (body.drop 13) (envOf qual scope L a cd)) Q (fun e s' => wpAny (model prog w) ((ktA dp un gd []).deeper (envOf qual scope L a cd)) (leaving (envOf qual scope L a cd) e) (fun _ s'' => E e s'') (fun e' s'' => E e' s'') s') { s with heap := h, toks := tk }) ?e hl ?k
  case e => k_dflt k_is
  case k =>
    have B := C.B
    have X := C.X.keeps C.B.stays
    have T := C.T.keeps C.B.stays
    have HA : ∀ k, k ≤ 11 → AskC prog w mean mg mb k := fun k hk => asked_spec k hk (parse_spec k hk) (read_spec k hk) (refused_spec k (parse_spec k hk))
    clear hl
    dsimp only [List.drop]
    k_steps
    all_goals (try dsimp only)
    rename IsRange _ _ _ _ _ _ _ _ => hR
    rename News _ _ _ _ => N2
    rename Fr _ _ _ _ => F2
    show wpAny _ _ _ _ _ _
    refine for_range (σ := Obj × Obj) (fun c => [(st, c.1), (ls, c.2), (ra, lsO vs n), (wa, lsO ws wm)]) (fun _ => [(Str.ofString "state", .ref st), (Str.ofString "row", .ref ra), (Str.ofString "whole", .ref wa), (Str.ofString "octets", .bytes (byteArr bs) tb), (Str.ofString "size", .int (bs.length : Int) tz)]) [Str.ofString "window", Str.ofString "at", Str.ofString "depth"] (fun _ c => StB ls fl c.1 c.2) ⟨o1, o2⟩ rfl hR
      (small_one (by omega) (by omega) (by omega) (by omega)) (rangeSize_nat _ _) F2 N2 (by walk_at "m_all") hS ?_ ?_
    · clear N2 F2 hR hS
      (try clear F N)
      rintro i t ⟨o1, o2⟩ u h tk' I oI hi hS hne F N
      dsimp only at hS hne F N ⊢
      simp only [NeAll, and_true] at hne
      have hE0 : ∀ n : Nat, 0 ≤ es.getD n 0 ∧ es.getD n 0 ≤ 604 := fun n => getD_all (P := fun x => 0 ≤ x ∧ x ≤ 604) hes (by decide) n
      k_steps
      all_goals (try dsimp only)
      rename News _ _ _ _ => N9
      rename Fr _ _ _ _ => F9
      rename _ = _ ∨ _ = _ => hv
      have hv0 := min_lo hE0 hv (by omega) (by omega)
      refine' use_askedA HA C F9 N9 rfl (by k_mem) hb hV hB (by omega) hd hu (getD3 _ ⟨by omega, by omega⟩ ⟨by omega, by omega⟩ ⟨by omega, by omega⟩ ⟨by omega, by omega⟩) (getD3 _ ⟨by omega, by omega⟩ ⟨(hE0 _).1, Int.le_trans (hE0 _).2 (by decide)⟩ ⟨by omega, by omega⟩ ⟨by omega, by omega⟩) (getD3 _ ⟨by omega, by omega⟩ ⟨by omega, by omega⟩ ⟨by omega, by omega⟩ ⟨by omega, by omega⟩) _
      intro h' tk' F9 N9
      dsimp only
      k_steps
      dsimp only [ForPost]
      exact for_end (σ := Obj × Obj) ⟨_, _⟩ F9 N9 (by k_mem) (by walk_at "m_sub") (by walk_at "m_ne") (by walk_at "m_all") (by walk_at "m_same") (by assumption)
    · rintro ⟨o1, o2⟩ u h tk' hS F N
      dsimp only at hS F N ⊢
      k_steps
      all_goals (try dsimp only)
      rename News _ _ _ _ => N9
      rename Fr _ _ _ _ => F9
      refine' use_askedA HA C F9 N9 rfl (by k_mem) hb hV hB (by omega) hd hu ⟨by omega, by omega⟩ ⟨by omega, by omega⟩ ⟨by omega, by omega⟩ _
      intro h' tk' F9 N9
      dsimp only
      k_steps
      exact ret _ _ _ F9
end

/-- the law's state between its statements -/
structure LS where
  fl : Bool
  o1 : Obj
  o2 : Obj
  ra : Addr
  ea : Addr
  vs : List Value
  ws : List Value
  n : Nat
  m : Nat
  bs : List Int
  es : List Int
def LOk (st ls : Addr) (W1 W2 E1 E2 : Nat) (c : LS) : Prop := StB ls c.fl c.o1 c.o2 ∧ IntsAre c.vs c.bs ∧ BytesL c.bs ∧ IntsAre c.ws c.es ∧ (c.fl = true → Built c.bs c.es) ∧ EndsIn (c.bs.length : Int) c.es ∧ W1 ≤ c.bs.length ∧ c.bs.length ≤ W2 ∧ E1 ≤ c.es.length ∧ c.es.length ≤ E2 ∧
  @Ne Nat c.ra st ∧ @Ne Nat c.ra ls ∧ @Ne Nat c.ea st ∧ @Ne Nat c.ea ls ∧ @Ne Nat c.ra c.ea
theorem bytes_set {bs : List Int} {i : Nat} {x : Int} (h : BytesL bs) (hx : 0 ≤ x ∧ x < 256) : BytesL (bs.set i x) := fun y hy => (List.mem_or_eq_of_mem_set hy).elim (h y) fun e => by rw [e]; exact hx
theorem bytes_getD {bs : List Int} (h : BytesL bs) (i : Nat) : 0 ≤ bs.getD i 0 ∧ bs.getD i 0 < 256 := ⟨getD_all (P := fun x => 0 ≤ x) (fun x hx => (h x hx).1) (by decide) _, getD_all (P := fun x => x < 256) (fun x hx => (h x hx).2) (by decide) _⟩
/-- the law's state behind the row's building -/
structure LR where
  fl : Bool
  o1 : Obj
  o2 : Obj
  ra : Addr
  vs : List Value
  n : Nat
  bs : List Int
def ROk (st ls wa : Addr) (es : List Int) (sp : Int) (W1 W2 : Nat) (c : LR) : Prop := StB ls c.fl c.o1 c.o2 ∧ IntsAre c.vs c.bs ∧ BytesL c.bs ∧ (c.fl = true → 1 < sp → ∃ r0 tl, c.bs = r0 ++ tl ∧ Built r0 es) ∧ W1 ≤ c.bs.length ∧ c.bs.length ≤ W2 ∧
  @Ne Nat c.ra st ∧ @Ne Nat c.ra ls ∧ @Ne Nat c.ra wa
theorem lok_chain {st ls : Addr} {fl fl' : Bool} {o1' o2' : Obj} {a ea : Addr} {vs ws : List Value} {n m : Nat} {b : List Int} {t : Tok} (hS : StB ls fl' o1' o2') (hV : IntsAre vs b) (hB : BytesL b) (hW : IntsAre ws [0]) (hZ : fl' = true → fl = true ∧ Elem 10 b)
    (h2 : 2 ≤ b.length) (h3 : b.length ≤ 60) (n1 : @Ne Nat a st) (n2 : @Ne Nat a ls) (n3 : @Ne Nat ea st) (n4 : @Ne Nat ea ls) (n5 : @Ne Nat a ea) : LOk st ls 0 60 1 2 ⟨fl', o1', o2', a, ea, vs, ws ++ [.int (b.length : Int) t], n, m, b, [0] ++ [(b.length : Int)]⟩ :=
  ⟨hS, hV, hB, intsAre_snoc hW _ _, fun h => Built.snoc .start (hZ h).2 rfl, fun e he => by
    dsimp only
    rcases List.mem_append.mp he with he | he
    · rw [List.mem_singleton.mp he]; omega
    · rw [List.mem_singleton.mp he]; omega, Nat.zero_le _, h3, by simp, by simp, n1, n2, n3, n4, n5⟩
theorem lok_grow {st ls : Addr} {fl fl' : Bool} {o1 o2 o1' o2' : Obj} {ra a ea : Addr} {vs vs' ws : List Value} {n m n' m' W1 W2 E1 E2 : Nat} {bs b es : List Int} {t : Tok} {x : Int} (h : LOk st ls W1 W2 E1 E2 ⟨fl, o1, o2, ra, ea, vs, ws, n, m, bs, es⟩) (hS : StB ls fl' o1' o2') (hV : IntsAre vs' (bs ++ b)) (hB : BytesL b) (hZ : fl' = true → fl = true ∧ Elem 2 b)
    (h2 : 2 ≤ b.length) (h3 : b.length ≤ 136) (n1 : @Ne Nat a st) (n2 : @Ne Nat a ls) (n5 : @Ne Nat a ea) (hx : x = (bs.length : Int) + (b.length : Int)) : LOk st ls (W1 + 2) (W2 + 136) (E1 + 1) (E2 + 1) ⟨fl', o1', o2', a, ea, vs', ws ++ [.int x t], n', m', bs ++ b, es ++ [x]⟩ := by
  obtain ⟨_, _, hB0, hW, hF, hE, hl1, hl2, he1, he2, _, _, n3, n4, _⟩ := h
  dsimp only at hB0 hW hF hE hl1 hl2 he1 he2
  refine ⟨hS, hV, hB0.append hB, intsAre_snoc hW _ _, fun h => .snoc (hF (hZ h).1) ((hZ h).2.mono (by decide)) (by rw [hx]; simp), hE.snoc ?_ ?_ ?_, ?_, ?_, ?_, ?_, n1, n2, n3, n4, n5⟩ <;> ((try dsimp only); (try simp only [List.length_append, List.length_cons, List.length_nil]); omega)
theorem LOk.mono {st ls : Addr} {W1 W2 E1 E2 W1' W2' E1' E2' : Nat} {c : LS} (h : LOk st ls W1 W2 E1 E2 c) (a : W1' ≤ c.bs.length) (b : W2 ≤ W2') (d : E1' ≤ c.es.length) (e : E2 ≤ E2') : LOk st ls W1' W2' E1' E2' c := by
  obtain ⟨hS, hV, hB0, hW, hF, hE, hl1, hl2, he1, he2, n1, n2, n3, n4, n5⟩ := h
  exact ⟨hS, hV, hB0, hW, hF, hE, a, Nat.le_trans hl2 b, d, Nat.le_trans he2 e, n1, n2, n3, n4, n5⟩
def TailP (prog : Program) (w : World) (g : Heap) (L a : Addr) (cd : Value) (dp un : Nat) (gd : Option (List Code)) (Q : Flow → Shared → Prop) (E : Value → Shared → Prop) (s : Shared) (qual : Str) (body : List Stmt) (scope : Scope) : Prop :=
  ∀ (st ls ra wa : Addr) (vs ws : List Value) (bs es : List Int) (n wm : Nat) (fl : Bool) (o1 o2 : Obj) (u : Str → Option Value) (h : Heap) (tk : Nat) (sp : Int) (tsp tb tz : Tok), @Ne Nat st ls → StB ls fl o1 o2 → IntsAre vs bs → BytesL bs → bs.length ≤ 607 → IntsAre ws es → 2 ≤ es.length → es.length ≤ 6 → (∀ e ∈ es, 0 ≤ e ∧ e ≤ 604) →
    @Ne Nat wa st → @Ne Nat wa ls → @Ne Nat ra st → @Ne Nat ra ls → @Ne Nat ra wa → KBw.bInts (byteArr bs) = bs →
    Fr g L h (kstB u [(Str.ofString "state", .ref st), (Str.ofString "row", .ref ra), (Str.ofString "whole", .ref wa), (Str.ofString "spoil", .int sp tsp), (Str.ofString "octets", .bytes (byteArr bs) tb), (Str.ofString "size", .int (bs.length : Int) tz)]) →
    News g L h [(st, o1), (ls, o2), (ra, lsO vs n), (wa, lsO ws wm)] →
    wpAny (model prog w) ((ktA dp un gd []).deeper (envOf qual scope L a cd)) (execs (body.drop 13) (envOf qual scope L a cd)) Q (fun e s' => wpAny (model prog w) ((ktA dp un gd []).deeper (envOf qual scope L a cd)) (leaving (envOf qual scope L a cd) e) (fun _ s'' => E e s'') (fun e' s'' => E e' s'') s') { s with heap := h, toks := tk }
section
variable {prog : Program} {w : World} {mean : ExcName → Option Value} {mg mb : Str → Option Value}
set_option maxHeartbeats 8000000 in
theorem law_body {oc : Value} {od : Option Addr} {osl : Array (Option Value)} {name qual : Str} {params : Arguments} {body : List Stmt} {scope : Scope} {dV kV doc pm cdv ct : Value} {an : Option Addr}
    (hl : (hd.heap_39 w.params).lookup 106 = some ⟨oc, od, .func (fnOf name qual params body scope dV kV doc pm an cdv ct), osl⟩)
    {dp un : Nat} {gd : Option (List Code)} {base g : Heap} {s : Shared} {Q : Flow → Shared → Prop} {E : Value → Shared → Prop} {L a sc : Addr} {cd : Value} {vs : List Value} {ns : List Int}
    (C : At w mean mg mb (ktA dp un gd []) base g []) (F : Fr g L s.heap (fun y => List.lookup y [(Str.ofString "script", .ref sc)])) (hLs : g.IsList sc vs.toArray) (hI : IntsAre vs ns) (h63 : ns.length ≤ 63) (hd : dp + 40 < recursionLimit) (hu : un + 1000 < cLine)
    (ret : ∀ h' tk' m', Fr g L h' m' → Q (.ret (.bool true)) { s with heap := h', toks := tk' }) :
    wpAny (model prog w) ((ktA dp un gd []).deeper (envOf qual scope L a cd)) (execs body (envOf qual scope L a cd)) Q (fun e s' => wpAny (model prog w) ((ktA dp un gd []).deeper (envOf qual scope L a cd)) (leaving (envOf qual scope L a cd) e) (fun _ s'' => E e s'') (fun e' s'' => E e' s'') s') s := by
  refine' body_eq (P := fun qual body scope => TailP prog w g L a cd dp un gd Q E s qual body scope → wpAny (model prog w) ((ktA dp un gd []).deeper (envOf qual scope L a cd)) (execs body (envOf qual scope L a cd)) Q (fun e s' => wpAny (model prog w) ((ktA dp un gd []).deeper (envOf qual scope L a cd)) (leaving (envOf qual scope L a cd) e) (fun _ s'' => E e s'') (fun e' s'' => E e' s'') s') s) ?e hl ?k
    (fun st ls ra wa vs ws bs es n wm fl o1 o2 u h tk sp tsp tb tz hsl hS hV hB hl2 hW he1 he2 hes m1 m2 n1 n2 n3 hb F N => law_tail hl C hd hu hsl hS hV hB hl2 hW he1 he2 hes m1 m2 n1 n2 n3 hb F N ret)
  case e => k_dflt k_is
  case k =>
    intro HT
    have B := C.B
    have X := C.X.keeps C.B.stays
    have T := C.T.keeps C.B.stays
    have N : News g L s.heap [] := News.nil
    have IG := grow_spec (prog := prog) (w := w) (mean := mean) (mg := mg) (mb := mb) 2 (by decide)
    have hg2 : growSize 2 = 136 := rfl
    clear hl
    -- the state, an empty row, the first place
    refine cut3 (σ := Addr × Addr × LS) (h₀ := g) (L := L) (fun c => [(c.1, c.2.2.o1), (c.2.1, c.2.2.o2), (c.2.2.ra, lsO c.2.2.vs c.2.2.n), (c.2.2.ea, lsO c.2.2.ws c.2.2.m)]) (fun c => [(Str.ofString "state", .ref c.1), (Str.ofString "row", .ref c.2.2.ra), (Str.ofString "ends", .ref c.2.2.ea)])
      (fun c => @Ne Nat c.1 c.2.1 ∧ c.2.2.bs = [] ∧ c.2.2.es = [0] ∧ LOk c.1 c.2.1 0 0 1 1 c.2.2) ?_ ?_
    · k_steps
      all_goals (try dsimp only)
      rename News _ _ _ _ => N9
      rename Fr _ _ _ _ => F9
      exact cut_end (σ := Addr × Addr × LS) ⟨_, _, ⟨true, _, _, _, _, [], [.int 0 _], _, _, [], [0]⟩⟩ F9 N9 (by walk_at "m_all") ⟨(by dsimp only; omega), rfl, rfl, (by assumption), .nil, .nil, .cons _ _ .nil, fun _ => .start, fun e he => by rw [List.mem_singleton.mp he]; exact ⟨Int.le_refl _, Int.le_refl _⟩, Nat.le_refl _, Nat.le_refl _, Nat.le_refl _, Nat.le_refl _, (by dsimp only; omega), (by dsimp only; omega), (by dsimp only; omega), (by dsimp only; omega), (by dsimp only; omega)⟩ (by walk_at "m_sub")
    rintro ⟨st, ls, c⟩ u h tk' ⟨hsl, hb0, he0, hc⟩ F' N'
    dsimp only at hsl hb0 he0 hc F' N' ⊢
    clear N F
    -- the chain
    refine cut (σ := LS) (h₀ := g) (L := L) (fun c => [(st, c.o1), (ls, c.o2), (c.ra, lsO c.vs c.n), (c.ea, lsO c.ws c.m)]) (fun c => [(Str.ofString "state", .ref st), (Str.ofString "row", .ref c.ra), (Str.ofString "ends", .ref c.ea)]) (LOk st ls 0 60 1 2) ?_ ?_
    · obtain ⟨fl, o1, o2, ra, ea, vs, ws, n, m, bs, es⟩ := c
      obtain ⟨hS, hV, hB, hW, hF, hE, hl1, hl2, he1, he2, n1, n2, n3, n4, n5⟩ := hc
      dsimp only at hb0 he0 hS hV hB hW hF hE hl1 hl2 he1 he2 n1 n2 n3 n4 n5 F' N' ⊢
      subst hb0 he0
      k_steps
      all_goals (try dsimp only)
      · rename News _ _ _ _ => N9
        rename Fr _ _ _ _ => F9
        rename _ = true → _ ∧ Elem 10 _ => hZ9
        (try simp only [List.push_toArray] at N9)
        exact cut_end (σ := LS) ⟨_, _, _, _, ea, _, _, _, _, _, _⟩ F9 N9 (by walk_at "m_all") (lok_chain (by assumption) (by assumption) (by assumption) hW hZ9 (by omega) (by omega) (by omega) (by omega) (by omega) (by omega) (by omega)) (by walk_at "m_sub")
      · rename News _ _ _ _ => N9
        rename Fr _ _ _ _ => F9
        exact cut_end (σ := LS) ⟨_, _, _, ra, ea, vs, ws, n, m, [], [0]⟩ F9 N9 (by walk_at "m_all") ⟨by assumption, hV, hB, hW, hF, hE, hl1, (by show (0:Nat) ≤ 60; decide), he1, (by show (1:Nat) ≤ 2; decide), n1, n2, n3, n4, n5⟩ (by walk_at "m_sub")
    clear hc N' F' c hb0 he0
    intro c u h tk' hc F' N'
    dsimp only at hc F' N' ⊢
    -- the elements
    refine cut (σ := LS) (h₀ := g) (L := L) (fun c => [(st, c.o1), (ls, c.o2), (c.ra, lsO c.vs c.n), (c.ea, lsO c.ws c.m)]) (fun c => [(Str.ofString "state", .ref st), (Str.ofString "row", .ref c.ra), (Str.ofString "ends", .ref c.ea)]) (LOk st ls 2 604 2 6) ?_ ?_
    · obtain ⟨fl, o1, o2, ra, ea, vs, ws, n, m, bs, es⟩ := c
      obtain ⟨hS, hV, hB, hW, hF, hE, hl1, hl2, he1, he2, n1, n2, n3, n4, n5⟩ := hc
      dsimp only at hS hV hB hW hF hE hl1 hl2 he1 he2 n1 n2 n3 n4 n5 F' N' ⊢
      k_steps
      all_goals (try dsimp only)
      rename News _ _ _ _ => N2
      rename Fr _ _ _ _ => F2
      rename StB _ _ _ _ => hS2
      rename IsRange _ _ _ _ _ _ _ _ => hR
      show wpAny _ _ _ _ _ _
      refine for_range (σ := LS) (fun c => [(st, c.o1), (ls, c.o2), (c.ra, lsO c.vs c.n), (c.ea, lsO c.ws c.m)]) (fun c => [(Str.ofString "state", .ref st), (Str.ofString "row", .ref c.ra), (Str.ofString "ends", .ref c.ea)]) []
        (fun i c => LOk st ls 0 (60 + i * 136) 1 (2 + i) c ∧ (1 ≤ i → 2 ≤ c.bs.length ∧ 2 ≤ c.es.length)) ⟨fl, _, _, ra, ea, vs, ws, n, m, bs, es⟩ rfl hR
        (small_one (by omega) (by omega) (by omega) (by omega)) (rangeSize_nat _ _) F2 (news_sub N2 (by walk_at "m_sub")) (by walk_at "m_all") ⟨⟨hS2, hV, hB, hW, hF, hE, hl1, hl2, he1, he2, n1, n2, n3, n4, n5⟩, fun h => absurd h (by decide)⟩ ?_ ?_
      · clear N2 F2 hR hS2 hV hB hW hF hE hl1 hl2 he1 he2 n1 n2 n3 n4 n5
        (try clear F' N')
        rintro i t ⟨fl, o1, o2, ra, ea, vs, ws, n, m, bs, es⟩ u h tk' I oI hi ⟨hc, h2⟩ hne F N
        have hc0 := hc
        obtain ⟨hS, hV, hB, hW, hF, hE, hl1, hl2, he1, he2, n1, n2, n3, n4, n5⟩ := hc0
        dsimp only at hS hV hB hW hF hE hl1 hl2 he1 he2 n1 n2 n3 n4 n5 h2 hne F N ⊢
        simp only [NeAll, and_true] at hne
        have hi4 : i < 4 := by omega
        k_steps
        all_goals (try dsimp only [ForPost])
        rename News _ _ _ _ => N9'
        rename Fr _ _ _ _ => F9'
        (try simp only [List.push_toArray] at N9')
        rename _ = true → _ ∧ Elem 2 _ => hZ9
        exact for_end (σ := LS) ⟨_, _, _, _, ea, _, _, _, _, _, _⟩ F9' N9' (by k_mem) (by walk_at "m_sub") (by walk_at "m_ne") (by walk_at "m_all") (by walk_at "m_same")
          ⟨(lok_grow hc (by assumption) (by assumption) (by assumption) hZ9 (by omega) (by omega) (by omega) (by omega) (by omega) (by first | rfl | (simp only [List.length_append]; omega))).mono (Nat.zero_le _) (by omega) (by (try dsimp only); (try simp only [List.length_append, List.length_cons, List.length_nil]); omega) (by omega),
            fun _ => ⟨by (try dsimp only); (try simp only [List.length_append]); omega, by (try dsimp only); (try simp only [List.length_append, List.length_cons, List.length_nil]); omega⟩⟩
      · rintro ⟨fl, o1, o2, ra, ea, vs, ws, n, m, bs, es⟩ u h tk' ⟨hc, h2⟩ F N
        have h2' := h2 (by omega)
        dsimp only at h2' F N ⊢
        exact cut_end (σ := LS) ⟨fl, o1, o2, ra, ea, vs, ws, n, m, bs, es⟩ F N (by walk_at "m_all") (hc.mono h2'.1 (by omega) h2'.2 (by omega)) (fun _ h => h)
    clear hc N' F' c
    rintro ⟨fl, o1, o2, ra, ea, vs, ws, n, m, bs, es⟩ u h tk' hc F' N'
    obtain ⟨hS, hV, hB, hW, hF, hE, hl1, hl2, he1, he2, n1, n2, n3, n4, n5⟩ := hc
    dsimp only at hS hV hB hW hF hE hl1 hl2 he1 he2 n1 n2 n3 n4 n5 F' N' ⊢
    -- the places, kept; how to spoil
    refine cut2 (σ := Bool × Obj × Obj × Addr × List Value × Nat × Int × Tok) (h₀ := g) (L := L) (fun c => [(st, c.2.1), (ls, c.2.2.1), (ra, lsO vs n), (c.2.2.2.1, lsO c.2.2.2.2.1 c.2.2.2.2.2.1)]) (fun c => [(Str.ofString "state", .ref st), (Str.ofString "row", .ref ra), (Str.ofString "whole", .ref c.2.2.2.1), (Str.ofString "spoil", .int c.2.2.2.2.2.2.1 c.2.2.2.2.2.2.2)])
      (fun c => c.1 = fl ∧ StB ls c.1 c.2.1 c.2.2.1 ∧ IntsAre c.2.2.2.2.1 es ∧ @Ne Nat c.2.2.2.1 st ∧ @Ne Nat c.2.2.2.1 ls ∧ @Ne Nat c.2.2.2.1 ra ∧ 0 ≤ c.2.2.2.2.2.2.1 ∧ c.2.2.2.2.2.2.1 < 6) ?_ ?_
    · k_steps
      all_goals (try dsimp only)
      rename News _ _ _ _ => N9
      rename Fr _ _ _ _ => F9
      exact cut_end (σ := Bool × Obj × Obj × Addr × List Value × Nat × Int × Tok) ⟨fl, _, _, _, ws, _, _, _⟩ F9 N9 (by walk_at "m_all") ⟨rfl, (by assumption), hW, (by dsimp only; omega), (by dsimp only; omega), (by dsimp only; omega), (by assumption), (by assumption)⟩ (by walk_at "m_sub")
    clear N' F' hS n3 n4 n5 hW
    rintro ⟨fl', o1, o2, wa, ws, wm, sp, tsp⟩ u h tk' ⟨rfl, hS, hW, m1, m2, m3, hs0, hs6⟩ F' N'
    dsimp only at hS hW m1 m2 m3 hs0 hs6 F' N' ⊢
    -- one octet turned
    refine cut (σ := LR) (h₀ := g) (L := L) (fun c => [(st, c.o1), (ls, c.o2), (c.ra, lsO c.vs c.n), (wa, lsO ws wm)]) (fun c => [(Str.ofString "state", .ref st), (Str.ofString "row", .ref c.ra), (Str.ofString "whole", .ref wa), (Str.ofString "spoil", .int sp tsp)]) (ROk st ls wa es sp 2 604) ?_ ?_
    · have hF' : fl' = true → 1 < sp → ∃ r0 tl, bs = r0 ++ tl ∧ Built r0 es := fun h _ => ⟨bs, [], by simp, hF h⟩
      k_steps
      all_goals (try dsimp only)
      · rename News _ _ _ _ => N9
        rename Fr _ _ _ _ => F9
        rename BytesL _ => hB9
        rename IntsAre _ (List.set _ _ _) => hi9
        exact cut_end (σ := LR) ⟨_, _, _, ra, _, _, _⟩ F9 N9 (by walk_at "m_all") ⟨(by assumption), hi9, bytes_set hB (bytes_getD hB9 _), fun _ h => absurd h (by omega), by (try dsimp only); rw [List.length_set]; omega, by (try dsimp only); rw [List.length_set]; omega, n1, n2, (by (try dsimp only); omega)⟩ (by walk_at "m_sub")
      · exact cut_end (σ := LR) ⟨fl', o1, o2, ra, vs, n, bs⟩ F' N' (by walk_at "m_all") ⟨hS, hV, hB, hF', by (try dsimp only); omega, by (try dsimp only); omega, n1, n2, (by (try dsimp only); omega)⟩ (fun _ h => h)
    have hes : ∀ e ∈ es, 0 ≤ e ∧ e ≤ 604 := fun e he => ⟨(hE e he).1, by have := (hE e he).2; omega⟩
    clear N' F' hS hV hB hF hE hl1 hl2 n1 n2 m3
    rintro ⟨fl, o1, o2, ra, vs, n, bs⟩ u h tk' ⟨hS, hV, hB, hF, hl1, hl2, n1, n2, n3⟩ F' N'
    dsimp only at hS hV hB hF hl1 hl2 n1 n2 n3 F' N' ⊢
    -- the end cut off
    refine cut (σ := LR) (h₀ := g) (L := L) (fun c => [(st, c.o1), (ls, c.o2), (c.ra, lsO c.vs c.n), (wa, lsO ws wm)]) (fun c => [(Str.ofString "state", .ref st), (Str.ofString "row", .ref c.ra), (Str.ofString "whole", .ref wa), (Str.ofString "spoil", .int sp tsp)]) (ROk st ls wa es sp 0 604) ?_ ?_
    · k_steps
      all_goals (try dsimp only)
      · rename News _ _ _ _ => N9
        rename Fr _ _ _ _ => F9
        rename IntsAre _ (List.take _ _) => hi9
        exact cut_end (σ := LR) ⟨_, _, _, _, _, _, _⟩ F9 N9 (by walk_at "m_all") ⟨(by assumption), hi9, fun y hy => hB y (List.mem_of_mem_take hy), fun _ h => absurd h (by omega), Nat.zero_le _, by (try dsimp only); rw [List.length_take]; omega, (by (try dsimp only); omega), (by (try dsimp only); omega), (by (try dsimp only); omega)⟩ (by walk_at "m_sub")
      · exact cut_end (σ := LR) ⟨fl, o1, o2, ra, vs, n, bs⟩ F' N' (by walk_at "m_all") ⟨hS, hV, hB, hF, Nat.zero_le _, hl2, n1, n2, n3⟩ (fun _ h => h)
    clear N' F' hS hV hB hF hl1 hl2 n1 n2 n3
    rintro ⟨fl, o1, o2, ra, vs, n, bs⟩ u h tk' ⟨hS, hV, hB, hF, hl1, hl2, n1, n2, n3⟩ F' N'
    dsimp only at hS hV hB hF hl1 hl2 n1 n2 n3 F' N' ⊢
    -- octets behind
    refine cut (σ := LR) (h₀ := g) (L := L) (fun c => [(st, c.o1), (ls, c.o2), (c.ra, lsO c.vs c.n), (wa, lsO ws wm)]) (fun c => [(Str.ofString "state", .ref st), (Str.ofString "row", .ref c.ra), (Str.ofString "whole", .ref wa), (Str.ofString "spoil", .int sp tsp)]) (ROk st ls wa es sp 0 607) ?_ ?_
    · k_steps
      all_goals (try dsimp only)
      · rename News _ _ _ _ => N9
        rename Fr _ _ _ _ => F9
        rename IntsAre _ (_ ++ _) => hi9
        rename BytesL _ => hB9
        exact cut_end (σ := LR) ⟨_, _, _, _, _, _, _⟩ F9 N9 (by walk_at "m_all") ⟨(by assumption), hi9, hB.append hB9, fun h h' => (hF h h').elim fun r0 x => x.elim fun tl y => ⟨r0, tl ++ _, by dsimp only; rw [y.1, List.append_assoc], y.2⟩, Nat.zero_le _, by (try dsimp only); rw [List.length_append]; omega, (by (try dsimp only); omega), (by (try dsimp only); omega), (by (try dsimp only); omega)⟩ (by walk_at "m_sub")
      · exact cut_end (σ := LR) ⟨fl, o1, o2, ra, vs, n, bs⟩ F' N' (by walk_at "m_all") ⟨hS, hV, hB, hF, Nat.zero_le _, (by (try dsimp only); omega), n1, n2, n3⟩ (fun _ h => h)
    clear N' F' hS hV hB hF hl1 hl2 n1 n2 n3
    rintro ⟨fl, o1, o2, ra, vs, n, bs⟩ u h tk' ⟨hS, hV, hB, hF, hl1, hl2, n1, n2, n3⟩ F' N'
    dsimp only at hS hV hB hF hl1 hl2 n1 n2 n3 F' N' ⊢
    -- the octets and the size
    refine cut2 (σ := Tok × Tok) (h₀ := g) (L := L) (fun c => [(st, o1), (ls, o2), (ra, lsO vs n), (wa, lsO ws wm)]) (fun c => [(Str.ofString "state", .ref st), (Str.ofString "row", .ref ra), (Str.ofString "whole", .ref wa), (Str.ofString "spoil", .int sp tsp), (Str.ofString "octets", .bytes (byteArr bs) c.1), (Str.ofString "size", .int (bs.length : Int) c.2)]) (fun _ => True) ?_ ?_
    · k_steps
      all_goals (try dsimp only)
      rename News _ _ _ _ => N9
      rename Fr _ _ _ _ => F9
      exact cut_end (σ := Tok × Tok) ⟨_, _⟩ F9 N9 (by walk_at "m_all") trivial (by walk_at "m_sub")
    clear N' F'
    rintro ⟨tb, tz⟩ u h tk' - F' N'
    dsimp only at F' N' ⊢
    have hb := KBa.ints_make (ns := bs) fun x hx => hB x hx
    -- what the law built is found again
    refine cut (σ := Unit) (h₀ := g) (L := L) (fun _ => [(st, o1), (ls, o2), (ra, lsO vs n), (wa, lsO ws wm)]) (fun _ => [(Str.ofString "state", .ref st), (Str.ofString "row", .ref ra), (Str.ofString "whole", .ref wa), (Str.ofString "spoil", .int sp tsp), (Str.ofString "octets", .bytes (byteArr bs) tb), (Str.ofString "size", .int (bs.length : Int) tz)]) (fun _ => True) ?_ ?_
    · have HP := parse_spec (prog := prog) (w := w) (mean := mean) (mg := mg) (mb := mb) 11 (by decide)
      obtain ⟨cur, seed, t1, t2, q1, vsS, q2, rfl, rfl, hok⟩ := hS
      cases fl
      · k_steps
        all_goals (try dsimp only)
        rename News _ _ _ _ => N9
        rename Fr _ _ _ _ => F9
        exact cut_end (σ := Unit) () F9 N9 (by walk_at "m_all") trivial (by walk_at "m_sub")
      · k_steps
        all_goals (try dsimp only)
        · rename News _ _ _ _ => N2
          rename Fr _ _ _ _ => F2
          rename IsRange _ _ _ _ _ _ _ _ => hR
          show wpAny _ _ _ _ _ _
          obtain ⟨r0, tl, hr0, hbt⟩ := hF rfl (by assumption)
          refine for_range (σ := Unit) (fun _ => [(st, stO ls cur seed true t1 t2 q1), (ls, lsO vsS q2), (ra, lsO vs n), (wa, lsO ws wm)]) (fun _ => [(Str.ofString "state", .ref st), (Str.ofString "row", .ref ra), (Str.ofString "whole", .ref wa), (Str.ofString "spoil", .int sp tsp), (Str.ofString "octets", .bytes (byteArr bs) tb), (Str.ofString "size", .int (bs.length : Int) tz)]) [] (fun _ _ => True) () rfl hR
            (small_one (by omega) (by omega) (by omega) (by omega)) (rangeSize_nat _ _) F2 N2 (by walk_at "m_all") trivial ?_ ?_
          · clear N2 F2 hR
            rename News _ _ _ _ => N3
            clear N3
            rename Fr _ _ _ _ => F3
            clear F3
            rintro i t - u h tk' I oI hi - hne F N
            dsimp only at hne F N ⊢
            simp only [NeAll, and_true] at hne
            have hi' : i + 1 < es.length := by omega
            obtain ⟨r, hr, hre, hx0, hx1⟩ : ∃ r, rd bs (bs.length : Int) 11 (es.getD ((0 : Int) + (i : Int)).toNat 0) = some r ∧ r.e = es.getD ((0 : Int) + (i : Int) + 1).toNat 0 ∧ 0 ≤ es.getD ((0 : Int) + (i : Int)).toNat 0 ∧ es.getD ((0 : Int) + (i : Int)).toNat 0 ≤ 604 := by
              obtain ⟨z, hz, hat⟩ := hbt.at
              have hzl : es.length = z.length + 1 := by rw [hz]; simp
              obtain ⟨pre, c, suf, p1, p2, p3, p4⟩ := hat i (by omega)
              have e1 : ((0 : Int) + (i : Int)).toNat = i := by omega
              have e2 : ((0 : Int) + (i : Int) + 1).toNat = i + 1 := by omega
              obtain ⟨r, q1, q2⟩ := elem_read p4 (bs := bs) (pre := pre) (suf := suf ++ tl) (n := 11) (by rw [hr0, p1]; simp) (by decide)
              rw [e1, e2]
              exact ⟨r, by rw [← p2]; exact q1, by rw [← p3]; exact q2, getD_all (P := fun x => 0 ≤ x) (fun x hx => (hes x hx).1) (by decide) _, getD_all (P := fun x => x ≤ 604) (fun x hx => (hes x hx).2) (by decide) _⟩
            k_steps
            · exfalso; omega
            · dsimp only [ForPost]
              rename News _ _ _ _ => N9'
              rename Fr _ _ _ _ => F9'
              exact for_end (σ := Unit) () F9' N9' (by k_mem) (by walk_at "m_sub") (by walk_at "m_ne") (by walk_at "m_all") (by walk_at "m_same") trivial
          · rintro - u h tk' - F N
            dsimp only at F N ⊢
            k_steps
            all_goals (try dsimp only)
            rename News _ _ _ _ => N9
            rename Fr _ _ _ _ => F9
            exact cut_end (σ := Unit) () F9 N9 (by walk_at "m_all") trivial (by walk_at "m_sub")
        · rename News _ _ _ _ => N9
          rename Fr _ _ _ _ => F9
          exact cut_end (σ := Unit) () F9 N9 (by walk_at "m_all") trivial (by walk_at "m_sub")
    clear N' F'
    rintro ⟨⟩ u h tk' - F' N'
    dsimp only at F' N' ⊢
    exact HT st ls ra wa vs ws bs es n wm fl o1 o2 u h tk' sp tsp tb tz hsl hS hV hB hl2 hW he1 he2 hes m1 m2 n1 n2 n3 hb F' N'
end

end Mine
set_option maxRecDepth 100000 in
set_option maxHeartbeats 8000000 in
theorem PySem.Challenge.cw_eh5001_01_holds : PySem.Challenge.rw_eh5001_01.Holds := by
  refine Mine.hd ?_
  w_strict (
    k_go0
    rename Fr _ _ _ _ => F9
    rename PySem.Heap.IsList _ _ _ => hl9
    rename IntsAre _ _ => hi9
    rename PyProof.Rows.Top _ _ _ _ _ _ => hT9
    refine' Mine.law_body (dp := 1 + claimMargin) (un := 4) (gd := some []) ?hl ⟨below_caller _, ?X, hT9⟩ F9 hl9 hi9 ?n ?d ?u ?ret
    case hl => k_dflt k_is
    case X => assumption
    case n => omega
    case d => decide
    case u => decide
    intro h' tk' m' F8
    dsimp only
    wrow_close)
