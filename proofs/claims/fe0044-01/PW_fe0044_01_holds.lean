import PyProof.Rows.All
import Wide.All
import OpenK.AllK
import Wide.FinOn
import Lean
import PySem.Challenge.RW_fe0044_01
open PySem PySem.W PyProof.Rows
set_option Elab.async false
set_option maxRecDepth 100000
set_option rowWalk.seconds 0
namespace Mine
/-! Head1 -/
section
set_option maxHeartbeats 8000000 in
open_top hd for PySem.Challenge.rw_fe0044_01

end
/-! Base1 -/
section
abbrev LN : List Str := [Str.ofString "b58encode_int", Str.ofString "b58encode", Str.ofString "b58decode_int", Str.ofString "b58decode", Str.ofString "b58encode_check", Str.ofString "b58decode_check"]
noncomputable abbrev LO : List Str := looseW hd.view_39 LN ++ List.map (fun x => x.name) (recsOf hd.view_39) ++ List.map (fun x => x.fst) (litsOf hd.view_39) ++ List.map (fun x => x.name) (clssOf hd.view_39 (looseW hd.view_39 LN))
abbrev TT (mean : ExcName → Option Value) (mg mb : Str → Option Value) (h : Heap) : Prop := Top topProg LO mean mg mb h
/-- what stands around a body that is walked -/
abbrev Ar (dp un : Nat) (gd : Option (List Code)) (env : Env) (outer : List Env) : Around := { handled := none, depth := dp, frames := some (env :: outer), guards := gd, units := un }

/-- a call that leaves all that stood as it stood -/
noncomputable def Spec (f : Addr) (n u : Nat) (vs : List Value) (kw : List (Str × Value)) (Pre : Heap → Prop) (Post : Heap → Heap → Value → Prop) : Prop :=
  ∀ (prog : Program) (w : World) (mean : ExcName → Option Value) (mg mb : Str → Option Value) (A : Around) (env : Env) (outer : List Env) (A₀ : Around) (base h₀ : Heap) (L : Addr) (m : Str → Option Value) (s : Shared) (Q E : Value → Shared → Prop),
    Below A₀ base outer h₀ → Fr h₀ L s.heap m → (hd.heap_39 w.params).In h₀ → TT mean mg mb h₀ → A.handled = none → A.frames = some (env :: outer) → env.frame = some L → env.scope.kind = .function → A.depth + n < recursionLimit → A.units + u < cLine → Pre s.heap →
    (∀ v h' tk', s.heap.StaysIn h' → Post s.heap h' v → Q v { s with heap := h', toks := tk' }) →
    wpAny (model prog w) A (call (.ref f) vs kw) Q E s

/-- enter a def's body upon the heap as it stands -/
theorem enterP {prog : Program} {w : World} {mean : ExcName → Option Value} {mg mb : Str → Option Value} {A : Around} {env : Env} {outer : List Env} {A₀ : Around} {base h₀ : Heap} {L : Addr} {m : Str → Option Value} {s : Shared} {R : Result → Shared → Prop}
    {name qual : Str} {params : Arguments} {body : List Stmt} {scope : Scope} {dV kV doc pm cdv ct oc : Value} {an od : Option Addr} {osl : Array (Option Value)} {f : Addr} {args : Args} {binds : List (Str × Value)}
    (B : Below A₀ base outer h₀) (F : Fr h₀ L s.heap m) (X : (hd.heap_39 w.params).In h₀) (T : TT mean mg mb h₀) (hA : A.frames = some (env :: outer)) (hf : env.frame = some L) (hke : env.scope.kind = .function)
    (ho : (hd.heap_39 w.params).lookup f = some ⟨oc, od, .func (fnOf name qual params body scope dV kV doc pm an cdv ct), osl⟩) (hcd : codeIn (hd.heap_39 w.params) cdv qual = true) (hroom : A.depth < recursionLimit)
    (hbind : BindsTo s (fnOf name qual params body scope dV kV doc pm an cdv ct) args binds) (hloc : ∀ y ∈ binds, scope.names.lookup y.1 = some .local)
    (h : ∀ L' h₁, Fr s.heap L' h₁ (fun y => binds.reverse.lookup y) → News s.heap L' h₁ [] → Below A base (env :: outer) s.heap → (hd.heap_39 w.params).In s.heap → TT mean mg mb s.heap →
      wpAny (model prog w) (A.deeper (envOf qual scope L' f cdv)) (execs body (envOf qual scope L' f cdv))
        (fun fl s' => R (.ok (.ret (match fl with | .ret v => v | _ => .none))) s')
        (fun e s' => wpAny (model prog w) (A.deeper (envOf qual scope L' f cdv)) (leaving (envOf qual scope L' f cdv) e) (fun _ s'' => R (.error e) s'') (fun e' s'' => R (.error e') s'') s')
        { s with heap := h₁, toks := s.toks + binds.length })
    (hco : scope.isCoroutine = false) (hgen : scope.isGenerator = false) (hk : scope.kind = .function)
    (hcell : ∀ x ∈ scope.names, x.2 ≠ .cell) : codeAny (model prog w) A (.call (.ref f) args) R s := by
  have B₁ := pushX B F hf hke
  refine codeAny_call_def (fd := fnOf name qual params body scope dV kV doc pm an cdv ct) (body := body) (binds := binds) hroom ((X.keeps F.keep) _ _ ho) rfl (T.nolimit.keeps F.keep) (codeRec_of (X.keeps F.keep) hcd) rfl hbind hcell hloc (fun h₁ hns hk₁ => ?_) hco hgen hk
  refine h s.heap.objs.size h₁ ⟨hns, hk₁, Nat.le_refl _⟩ News.nil ⟨hA, ?_, ?_⟩ (X.keeps F.keep) (T.keeps F.keep)
  · exact fun b o e => F.keep b o (B.stays b o e)
  · exact B₁.frames
/-- enter a def's body where some names live in cells -/
theorem enterPC {prog : Program} {w : World} {mean : ExcName → Option Value} {mg mb : Str → Option Value} {A : Around} {env : Env} {outer : List Env} {A₀ : Around} {base h₀ : Heap} {L : Addr} {m : Str → Option Value} {s : Shared} {R : Result → Shared → Prop}
    {name qual : Str} {params : Arguments} {body : List Stmt} {scope : Scope} {dV kV doc pm cdv ct oc : Value} {an od : Option Addr} {osl : Array (Option Value)} {f : Addr} {args : Args} {binds : List (Str × Value)}
    (B : Below A₀ base outer h₀) (F : Fr h₀ L s.heap m) (X : (hd.heap_39 w.params).In h₀) (T : TT mean mg mb h₀) (hA : A.frames = some (env :: outer)) (hf : env.frame = some L) (hke : env.scope.kind = .function)
    (ho : (hd.heap_39 w.params).lookup f = some ⟨oc, od, .func (fnOf name qual params body scope dV kV doc pm an cdv ct), osl⟩) (hcd : codeIn (hd.heap_39 w.params) cdv qual = true) (hroom : A.depth < recursionLimit)
    (hbind : BindsTo s (fnOf name qual params body scope dV kV doc pm an cdv ct) args binds) (hkind : (binds.all fun y => scope.names.lookup y.1 == some .local || scope.names.lookup y.1 == some .cell) = true)
    (hnd : ((cellsFrom 0 scope.names []).map (·.1)).Nodup)
    (h : ∀ L' h₁ tk cells, Fr s.heap L' h₁ (bindL (envOfC qual scope L' f cdv).kindOf binds fun _ => none) → News s.heap L' h₁ cells → CellsAre (bindC (envOfC qual scope L' f cdv).kindOf binds fun _ => none) (cellsFrom (L' + 1) scope.names []) cells →
      Below A base (env :: outer) s.heap → (hd.heap_39 w.params).In s.heap → TT mean mg mb s.heap →
      wpAny (model prog w) (A.deeper (envOfC qual scope L' f cdv)) (execs body (envOfC qual scope L' f cdv))
        (fun fl s' => R (.ok (.ret (match fl with | .ret v => v | _ => .none))) s')
        (fun e s' => wpAny (model prog w) (A.deeper (envOfC qual scope L' f cdv)) (leaving (envOfC qual scope L' f cdv) e) (fun _ s'' => R (.error e) s'') (fun e' s'' => R (.error e') s'') s')
        { s with heap := h₁, toks := tk })
    (hco : scope.isCoroutine = false) (hgen : scope.isGenerator = false) (hk : scope.kind = .function) : codeAny (model prog w) A (.call (.ref f) args) R s := by
  have B₁ := pushX B F hf hke
  refine codeAny_call_function (fd := fnOf name qual params body scope dV kV doc pm an cdv ct) (body := body) hroom ((X.keeps F.keep) _ _ ho) rfl hco hgen rfl (codeRec_of (X.keeps F.keep) hcd) (hbind _ _ _ _ ?_)
  refine wpAny_newFunctionEnv_cells hk (kindsX hkind _) fun env' he s' x => ?_
  subst he
  refine ⟨((T.nolimit.keeps F.keep)).keeps x.toInCall.keep, codeAny_func ?_⟩
  obtain ⟨h₁, tk, rfl, _⟩ := x.done
  have hk₁ := x.toInCall.keep
  obtain ⟨cells, NC, Y⟩ := Cl.news (h₀ := s.heap) (Nat.le_refl _) fun n c hm => ⟨x.cell n c (lookup_of_mem_nodup (cellsFrom_names scope.names 0 (s.heap.objs.size + 1) [] [] rfl ▸ hnd) hm), x.above n c hm⟩
  exact h s.heap.objs.size h₁ tk cells ⟨x.toInCall.ns, hk₁, Nat.le_refl _⟩ NC Y ⟨hA, fun b o e => F.keep b o (B.stays b o e), B₁.frames⟩ (X.keeps F.keep) (T.keeps F.keep)

abbrev PInt (x : Int) (_ _ : Heap) (v : Value) : Prop := ∃ t, v = .int x t
abbrev PBytes (x : List Int) (_ _ : Heap) (v : Value) : Prop := ∃ b t, v = .bytes b t ∧ KBw.bInts b = x
abbrev PList (x : List Int) (h h' : Heap) (v : Value) : Prop := ∃ l n vs, v = .ref l ∧ h.get? l = none ∧ h'.get? l = some (PySem.W.listOf vs.toArray n) ∧ IntsAre vs x

theorem fr_stays {h₀ h h' : Heap} {L : Addr} {m : Str → Option Value} (F : Fr h₀ L h m) (k : h.StaysIn h') : Fr h₀ L h' m := F.keeps k
theorem news_stays {h₀ h h' : Heap} {L : Addr} {news : List (Addr × Obj)} (N : News h₀ L h news) (k : h.StaysIn h') : News h₀ L h' news := fun p hp => ⟨k _ _ (N p hp).1, (N p hp).2⟩

section
variable {prog : Program} {w : World} {mean : ExcName → Option Value} {mg mb : Str → Option Value} {A : Around} {env : Env} {outer : List Env} {A₀ : Around} {base h₀ : Heap} {L : Addr} {m : Str → Option Value} {s : Shared} {Q E : Value → Shared → Prop} {news : List (Addr × Obj)}
  {f : Addr} {n u : Nat} {vs : List Value} {kw : List (Str × Value)} {Pre : Heap → Prop}
theorem use_int {x : Int} (H : Spec f n u vs kw Pre (PInt x)) (B : Below A₀ base outer h₀) (F : Fr h₀ L s.heap m) (X : (hd.heap_39 w.params).In h₀) (T : TT mean mg mb h₀) (N : News h₀ L s.heap news)
    (hh : A.handled = none) (hA : A.frames = some (env :: outer)) (hf : env.frame = some L) (hke : env.scope.kind = .function) (hd : A.depth + n < recursionLimit) (hu : A.units + u < cLine) (hpre : Pre s.heap)
    (k : ∀ t h' tk', Fr h₀ L h' m → News h₀ L h' news → Q (.int x t) { s with heap := h', toks := tk' }) : wpAny (model prog w) A (call (.ref f) vs kw) Q E s :=
  H _ _ _ _ _ _ _ _ _ _ _ _ _ _ _ _ B F X T hh hA hf hke hd hu hpre fun _ h' tk' st ⟨t, e⟩ => e ▸ k t h' tk' (fr_stays F st) (news_stays N st)
theorem use_bytes {x : List Int} (H : Spec f n u vs kw Pre (PBytes x)) (B : Below A₀ base outer h₀) (F : Fr h₀ L s.heap m) (X : (hd.heap_39 w.params).In h₀) (T : TT mean mg mb h₀) (N : News h₀ L s.heap news)
    (hh : A.handled = none) (hA : A.frames = some (env :: outer)) (hf : env.frame = some L) (hke : env.scope.kind = .function) (hd : A.depth + n < recursionLimit) (hu : A.units + u < cLine) (hpre : Pre s.heap)
    (k : ∀ b t h' tk', KBw.bInts b = x → Fr h₀ L h' m → News h₀ L h' news → Q (.bytes b t) { s with heap := h', toks := tk' }) : wpAny (model prog w) A (call (.ref f) vs kw) Q E s :=
  H _ _ _ _ _ _ _ _ _ _ _ _ _ _ _ _ B F X T hh hA hf hke hd hu hpre fun _ h' tk' st ⟨b, t, e, hb⟩ => e ▸ k b t h' tk' hb (fr_stays F st) (news_stays N st)
theorem use_list {x : List Int} (H : Spec f n u vs kw Pre (PList x)) (B : Below A₀ base outer h₀) (F : Fr h₀ L s.heap m) (X : (hd.heap_39 w.params).In h₀) (T : TT mean mg mb h₀) (N : News h₀ L s.heap news)
    (hh : A.handled = none) (hA : A.frames = some (env :: outer)) (hf : env.frame = some L) (hke : env.scope.kind = .function) (hd : A.depth + n < recursionLimit) (hu : A.units + u < cLine) (hpre : Pre s.heap)
    (k : ∀ l c vs h' tk', (∀ q ∈ news, q.1 ≠ l) → IntsAre vs x → Fr h₀ L h' m → News h₀ L h' ((l, PySem.W.listOf vs.toArray c) :: news) → Q (.ref l) { s with heap := h', toks := tk' }) : wpAny (model prog w) A (call (.ref f) vs kw) Q E s :=
  H _ _ _ _ _ _ _ _ _ _ _ _ _ _ _ _ B F X T hh hA hf hke hd hu hpre fun _ h' tk' st ⟨l, c, vs, e, hs, hl, hi⟩ => e ▸ k l c vs h' tk' (fun q hq z => by have := (N q hq).1; rw [z, hs] at this; cases this) hi (fr_stays F st) fun q hq => by
    rcases List.mem_cons.mp hq with rfl | hq
    · refine ⟨hl, fun z => ?_, ?_⟩
      · obtain ⟨o, es, ep, ho, _⟩ := F.ns
        dsimp only at z
        rw [z] at hs
        rw [hs] at ho
        cases ho
      · cases e : h₀.get? l with
        | none => rfl
        | some o => have := F.keep _ _ e; rw [hs] at this; cases this
    · exact news_stays N st q hq
end
section
variable {s : Shared} {Q : Value → Shared → Prop} {h' : Heap} {tk' : Nat}
theorem fin_int {x y : Int} {t : Tok} (hret : ∀ v h' tk', s.heap.StaysIn h' → PInt x s.heap h' v → Q v { s with heap := h', toks := tk' }) (k : s.heap.StaysIn h') (e : y = x) : Q (.int y t) { s with heap := h', toks := tk' } := hret _ _ _ k ⟨t, by rw [e]⟩
theorem fin_bytes {x : List Int} {b : Array UInt8} {t : Tok} (hret : ∀ v h' tk', s.heap.StaysIn h' → PBytes x s.heap h' v → Q v { s with heap := h', toks := tk' }) (k : s.heap.StaysIn h') (e : KBw.bInts b = x) : Q (.bytes b t) { s with heap := h', toks := tk' } := hret _ _ _ k ⟨b, t, rfl, e⟩
theorem fin_list {x y : List Int} {l L : Addr} {n : Nat} {vs : List Value} {m : Str → Option Value} {news : List (Addr × Obj)} (hret : ∀ v h' tk', s.heap.StaysIn h' → PList x s.heap h' v → Q v { s with heap := h', toks := tk' }) (F : Fr s.heap L h' m) (N : News s.heap L h' news) (hm : (l, PySem.W.listOf vs.toArray n) ∈ news) (hi : IntsAre vs y) (e : y = x) : Q (.ref l) { s with heap := h', toks := tk' } :=
  hret _ _ _ F.keep ⟨l, n, vs, rfl, (N _ hm).2.2, (N _ hm).1, e ▸ hi⟩
end
/-- a mark at which the walk halts -/
noncomputable def Stop (P : Prop) : Prop := P
theorem Stop.out {P : Prop} (h : Stop P) : P := h
theorem Stop.mk {P : Prop} (h : P) : Stop P := h

end
/-! Pure1 -/
section
/- --pure -/
noncomputable def draw (ns : List Int) (k : Nat) : Int := if ns.length = 0 then 5 * k + 2 else ns.getD (k % ns.length) 0 + 37 * ((k / ns.length : Nat) : Int)
/-- the noughts ahead -/
noncomputable def nz : List Int → Nat
  | [] => 0
  | x :: r => if x = 0 then nz r + 1 else 0
theorem nz_le : ∀ l : List Int, nz l ≤ l.length
  | [] => Nat.le_refl _
  | x :: r => by
    have := nz_le r
    simp only [nz, List.length_cons]
    split <;> omega
theorem nz_step : ∀ (l : List Int) (c : Nat), c ≤ nz l → c < l.length → l.getD c 0 = 0 → c + 1 ≤ nz l
  | [], c, _, h, _ => by simp at h
  | x :: r, 0, _, _, hz => by
    have : x = 0 := by simpa using hz
    simp [nz, this]
  | x :: r, c + 1, h, hl, hz => by
    have hx : x = 0 := by
      apply Classical.byContradiction
      intro hx
      simp [nz, hx] at h
    have h' : c ≤ nz r := by simpa [nz, hx] using h
    have := nz_step r c h' (by simpa using hl) (by simpa using hz)
    simp only [nz, hx, if_true]
    omega
theorem nz_stop : ∀ (l : List Int) (c : Nat), c ≤ nz l → c < l.length → l.getD c 0 ≠ 0 → c = nz l
  | [], c, _, h, _ => by simp at h
  | x :: r, 0, _, _, hz => by
    have : x ≠ 0 := by simpa using hz
    simp [nz, this]
  | x :: r, c + 1, h, hl, hz => by
    have hx : x = 0 := by
      apply Classical.byContradiction
      intro hx
      simp [nz, hx] at h
    have h' : c ≤ nz r := by simpa [nz, hx] using h
    have := nz_stop r c h' (by simpa using hl) (by simpa using hz)
    simp only [nz, hx, if_true]
    omega
theorem nz_full (l : List Int) (c : Nat) (h : c ≤ nz l) (hl : ¬ c < l.length) : c = nz l := by
  have := nz_le l
  omega
theorem nz_inv {ks : List Int} {c : Int} (h0 : 0 ≤ c) (h1 : c.toNat ≤ nz ks) (h2 : c < (ks.length : Int)) (h3 : ks.getD c.toNat 0 = 0) : 0 ≤ c + 1 ∧ (c + 1).toNat ≤ nz ks := by
  have := nz_step ks c.toNat h1 (by omega) h3
  omega
theorem nz_out1 {ks : List Int} {c : Int} (h0 : 0 ≤ c) (h1 : c.toNat ≤ nz ks) (h2 : c < (ks.length : Int)) (h3 : ks.getD c.toNat 0 ≠ 0) : c = nz ks := by
  have := nz_stop ks c.toNat h1 (by omega) h3
  omega
theorem nz_out2 {ks : List Int} {c : Int} (h0 : 0 ≤ c) (h1 : c.toNat ≤ nz ks) (h2 : ¬ c < (ks.length : Int)) : c = nz ks := by
  have := nz_full ks c.toNat h1 (by omega)
  omega
theorem drop_nz : ∀ ks : List Int, ks.dropWhile (fun y => decide (y = 0)) = ks.drop (nz ks)
  | [] => rfl
  | x :: r => by
    by_cases h : x = 0
    · simp [nz, h, drop_nz r]
    · simp [nz, h]

end
/-! F1 -/
section
local macro_rules | `(tactic| walk_at $s:str) => `(tactic| k_extra $s)
set_option maxHeartbeats 8000000 in
theorem draw_spec (l : Addr) (vs : List Value) (ns : List Int) (k : Nat) (t : Tok) (hI : IntsAre vs ns) (hl : ns.length < 64) (hk : k < 64) :
    Spec 87 1 8 [.ref l, .int k t] [] (fun h => h.IsList l vs.toArray) (PInt (draw ns k)) := by
  intro prog w mean mg mb A env outer A₀ base h₀ L m s Q E B F X T hhd hA hf hke hd hu hpre hret
  obtain ⟨hdl, dp, fr, gd, un⟩ := A
  dsimp only at hhd hA hd hu hpre
  subst hhd hA
  refine wpAny_call ?_
  k_dflt (refine' enterP ?k1 ?k2 ?k3 ?k5 ?kA ?kF ?kK ?k6 ?k7 ?k8 ?k9 ?kB ?_ ?c2 ?c3 ?c4 ?c5; (case kA => exact rfl); (case kF => assumption); (case kK => assumption); (case k1 => k_asm); (case k2 => k_asm); (case k3 => k_asm);  (case k5 => k_asm); (case k6 => k_is); (case k7 => k_is); (case k8 => (try dsimp only); omega); (case k9 => first | exact BindsTo.of_eq rfl | exact binds_K (by k_in) rfl (by k_is) rfl rfl rfl | (refine' kp_binds ?kx ?ke; (case kx => k_in); (case ke => exact fun _ => rfl))); (case c5 => decide); (case kB => exact locs rfl); (case c2 => exact rfl); (case c3 => exact rfl); (case c4 => exact rfl); k_whole; intro L' h' F' N' B' X' T'; (try dsimp only); (try k_lift B'); (try k_fold))
  (k_steps; all_goals (repeat (first | (k_unfold; try dsimp only) | dsimp only)))
  · refine fin_int hret (Fr.keep (by assumption)) ?_
    have h0 : 0 < ns.length := by assumption
    have e1 : ((k : Int).fmod (ns.length : Int)).toNat = k % ns.length := by
      rw [Int.fmod_eq_emod_of_nonneg _ (by omega)]; omega
    have e2 : (k : Int).fdiv (ns.length : Int) = ((k / ns.length : Nat) : Int) := by
      rw [Int.fdiv_eq_ediv_of_nonneg _ (by omega)]; omega
    rw [e1, e2]
    unfold draw
    rw [if_neg (by omega)]
  · refine fin_int hret (Fr.keep (by assumption)) ?_
    unfold draw
    rw [if_pos (by omega)]
set_option maxHeartbeats 8000000 in
theorem noughts_spec (b : Array UInt8) (ks : List Int) (t : Tok) (hk : KBw.bInts b = ks) (hb : ks.length < 1000) :
    Spec 106 1 8 [.bytes b t] [] (fun _ => True) (PInt (nz ks)) := by
  intro prog w mean mg mb A env outer A₀ base h₀ L m s Q E B F X T hhd hA hf hke hd hu hpre hret
  obtain ⟨hdl, dp, fr, gd, un⟩ := A
  dsimp only at hhd hA hd hu hpre
  subst hhd hA
  refine wpAny_call ?_
  k_dflt (refine' enterP ?k1 ?k2 ?k3 ?k5 ?kA ?kF ?kK ?k6 ?k7 ?k8 ?k9 ?kB ?_ ?c2 ?c3 ?c4 ?c5; (case kA => exact rfl); (case kF => assumption); (case kK => assumption); (case k1 => k_asm); (case k2 => k_asm); (case k3 => k_asm);  (case k5 => k_asm); (case k6 => k_is); (case k7 => k_is); (case k8 => (try dsimp only); omega); (case k9 => first | exact BindsTo.of_eq rfl | exact binds_K (by k_in) rfl (by k_is) rfl rfl rfl | (refine' kp_binds ?kx ?ke; (case kx => k_in); (case ke => exact fun _ => rfl))); (case c5 => decide); (case kB => exact locs rfl); (case c2 => exact rfl); (case c3 => exact rfl); (case c4 => exact rfl); k_whole; intro L' h' F' N' B' X' T'; (try dsimp only); (try k_lift B'); (try k_fold))
  k_with_none
  k_with "exec While BoolOp" => k_while (fun _ c => 0 ≤ c ∧ c.toNat ≤ nz ks) (fun _ c => ks.length - c.toNat) "count"
  k_with "state" => first | exact nz_inv (by assumption) (by assumption) (by assumption) (by assumption) | exact ⟨by decide, Nat.zero_le _⟩
  (k_steps; all_goals (repeat (first | (k_unfold; try dsimp only) | dsimp only)))
  all_goals refine fin_int hret (Fr.keep (by assumption)) ?_
  · exact nz_out1 (by assumption) (by assumption) (by assumption) (by assumption)
  · exact nz_out2 (by assumption) (by assumption) (by assumption)
set_option maxHeartbeats 8000000 in
theorem noughts_list (l : Addr) (vs : List Value) (ks : List Int) (hI : IntsAre vs ks) (hb : ks.length < 1000) :
    Spec 106 1 8 [.ref l] [] (fun h => h.IsList l vs.toArray) (PInt (nz ks)) := by
  intro prog w mean mg mb A env outer A₀ base h₀ L m s Q E B F X T hhd hA hf hke hd hu hpre hret
  obtain ⟨hdl, dp, fr, gd, un⟩ := A
  dsimp only at hhd hA hd hu hpre
  subst hhd hA
  refine wpAny_call ?_
  k_dflt (refine' enterP ?k1 ?k2 ?k3 ?k5 ?kA ?kF ?kK ?k6 ?k7 ?k8 ?k9 ?kB ?_ ?c2 ?c3 ?c4 ?c5; (case kA => exact rfl); (case kF => assumption); (case kK => assumption); (case k1 => k_asm); (case k2 => k_asm); (case k3 => k_asm);  (case k5 => k_asm); (case k6 => k_is); (case k7 => k_is); (case k8 => (try dsimp only); omega); (case k9 => first | exact BindsTo.of_eq rfl | exact binds_K (by k_in) rfl (by k_is) rfl rfl rfl | (refine' kp_binds ?kx ?ke; (case kx => k_in); (case ke => exact fun _ => rfl))); (case c5 => decide); (case kB => exact locs rfl); (case c2 => exact rfl); (case c3 => exact rfl); (case c4 => exact rfl); k_whole; intro L' h' F' N' B' X' T'; (try dsimp only); (try k_lift B'); (try k_fold))
  k_with_none
  k_with "exec While BoolOp" => k_while (fun _ c => 0 ≤ c ∧ c.toNat ≤ nz ks) (fun _ c => ks.length - c.toNat) "count"
  k_with "state" => first | exact nz_inv (by assumption) (by assumption) (by assumption) (by assumption) | exact ⟨by decide, Nat.zero_le _⟩
  (k_steps; all_goals (repeat (first | (k_unfold; try dsimp only) | dsimp only)))
  all_goals refine fin_int hret (Fr.keep (by assumption)) ?_
  · exact nz_out1 (by assumption) (by assumption) (by assumption) (by assumption)
  · exact nz_out2 (by assumption) (by assumption) (by assumption)
theorem draw_specI (l : Addr) (vs : List Value) (ns : List Int) (k : Nat) (j : Int) (t : Tok) (hj : j = (k : Int)) (hI : IntsAre vs ns) (hl : ns.length < 64) (hk : k < 64) :
    Spec 87 1 8 [.ref l, .int j t] [] (fun h => h.IsList l vs.toArray) (PInt (draw ns k)) := by
  subst hj
  exact draw_spec l vs ns k t hI hl hk

end
/-! Pure2 -/
section
/- --pure -/
/-- the digits of c to the base b, the last first -/
noncomputable def digs (b c : Int) : List Int := if h : 0 < c ∧ 2 ≤ b then c % b :: digs b (c / b) else []
termination_by c.toNat
decreasing_by
  have h1 : c / b < c := Int.ediv_lt_self_of_pos_of_ne_one (by omega) (by omega)
  have h2 : 0 ≤ c / b := Int.ediv_nonneg (by omega) (by omega)
  omega
theorem digs_pos {b c : Int} (h : 0 < c) (hb : 2 ≤ b) : digs b c = c % b :: digs b (c / b) := by
  rw [digs, dif_pos ⟨h, hb⟩]
theorem digs_zero {b c : Int} (h : ¬ 0 < c) : digs b c = [] := by
  rw [digs, dif_neg (fun x => h x.1)]
/-- one more figure: the carry goes through what stands -/
noncomputable def stepC (old new : Int) : Int → List Int → List Int
  | c, [] => digs new c
  | c, d :: r => (c + d * old) % new :: stepC old new ((c + d * old) / new) r
noncomputable def val (old : Int) (l : List Int) : Int := l.foldl (fun a x => a * old + x) 0
theorem val_snoc (old : Int) (l : List Int) (x : Int) : val old (l ++ [x]) = val old l * old + x := by
  simp [val, List.foldl_append]
theorem val_nonneg {old : Int} (ho : 0 ≤ old) : ∀ l : List Int, (∀ x ∈ l, 0 ≤ x) → 0 ≤ val old l := by
  intro l
  have : ∀ (l : List Int) (a : Int), 0 ≤ a → (∀ x ∈ l, 0 ≤ x) → 0 ≤ l.foldl (fun a x => a * old + x) a := by
    intro l
    induction l with
    | nil => intro a h _; exact h
    | cons x r ih =>
      intro a h hx
      exact ih _ (Int.add_nonneg (Int.mul_nonneg h ho) (hx x (List.mem_cons_self ..))) fun y hy => hx y (List.mem_cons_of_mem _ hy)
  exact this l 0 (Int.le_refl _)
theorem stepC_digs {old new : Int} (hn : 2 ≤ new) (ho : 1 ≤ old) : ∀ (k : Nat) (v c : Int), v.toNat ≤ k → 0 ≤ v → 0 ≤ c → stepC old new c (digs new v) = digs new (c + v * old) := by
  intro k
  induction k with
  | zero =>
    intro v c hk hv hc
    have : v = 0 := by omega
    subst this
    rw [digs_zero (by omega)]
    simp [stepC]
  | succ k ih =>
    intro v c hk hv hc
    by_cases h0 : 0 < v
    · rw [digs_pos h0 hn]
      have hm := Int.emod_nonneg v (show new ≠ 0 by omega)
      have hq : 0 ≤ v / new := Int.ediv_nonneg (by omega) (by omega)
      have hlt : v / new < v := Int.ediv_lt_self_of_pos_of_ne_one (by omega) (by omega)
      have hvo : v ≤ v * old := by have := Int.mul_le_mul_of_nonneg_left ho hv; omega
      have hmo : 0 ≤ v % new * old := Int.mul_nonneg hm (by omega)
      have hc' : 0 ≤ (c + v % new * old) / new := Int.ediv_nonneg (by omega) (by omega)
      show (c + v % new * old) % new :: stepC old new ((c + v % new * old) / new) (digs new (v / new)) = _
      rw [ih (v / new) _ (by omega) hq hc']
      have e : c + v * old = (c + v % new * old) + new * (v / new * old) := by
        have := Int.emod_add_mul_ediv v new
        calc c + v * old = c + (v % new + new * (v / new)) * old := by rw [this]
          _ = _ := by rw [Int.add_mul, Int.mul_assoc, Int.add_assoc]
      rw [digs_pos (show 0 < c + v * old by omega) hn]
      congr 1
      · rw [e, Int.add_mul_emod_self_left]
      · rw [e, Int.add_mul_ediv_left _ _ (by omega)]
    · have : v = 0 := by omega
      subst this
      rw [digs_zero (by omega)]
      simp [stepC]
theorem digs_in {b : Int} : ∀ (k : Nat) (c : Int), c.toNat ≤ k → ∀ x ∈ digs b c, 0 ≤ x ∧ x < b := by
  intro k
  induction k with
  | zero => intro c hk x hx; rw [digs_zero (by omega)] at hx; cases hx
  | succ k ih =>
    intro c hk x hx
    by_cases h : 0 < c ∧ 2 ≤ b
    · rw [digs_pos h.1 h.2] at hx
      have hlt : c / b < c := Int.ediv_lt_self_of_pos_of_ne_one (by omega) (by omega)
      rcases List.mem_cons.mp hx with rfl | hx
      · exact ⟨Int.emod_nonneg _ (by omega), Int.emod_lt_of_pos _ (by omega)⟩
      · exact ih _ (by omega) x hx
    · rw [digs, dif_neg h] at hx; cases hx
theorem digs_len {b : Int} (hb : 2 ≤ b) : ∀ (k : Nat) (c : Int), c < 2 ^ k → (digs b c).length ≤ k := by
  intro k
  induction k with
  | zero => intro c h; rw [digs_zero (by simp at h; omega)]; exact Nat.le_refl _
  | succ k ih =>
    intro c h
    by_cases h0 : 0 < c
    · rw [digs_pos h0 hb]
      have h2 : c / b ≤ c / 2 := by
        refine Int.le_ediv_of_mul_le (by omega) ?_
        have q0 : 0 ≤ c / b := Int.ediv_nonneg (by omega) (by omega)
        have q1 := Int.mul_le_mul_of_nonneg_left hb q0
        have q2 := Int.ediv_mul_le c (show b ≠ 0 by omega)
        omega
      have h3 : c / 2 < 2 ^ k := by
        rw [Int.pow_succ] at h
        omega
      have := ih (c / b) (by omega)
      simp only [List.length_cons]
      omega
    · rw [digs_zero h0]; exact Nat.zero_le _
theorem val_lt {old : Int} (ho : 1 ≤ old) : ∀ (l : List Int), (∀ x ∈ l, 0 ≤ x ∧ x < old) → val old l < old ^ l.length := by
  have : ∀ (l : List Int) (a : Int) (n : Nat), a < old ^ n → (∀ x ∈ l, 0 ≤ x ∧ x < old) → l.foldl (fun a x => a * old + x) a < old ^ (n + l.length) := by
    intro l
    induction l with
    | nil => intro a n h _; exact h
    | cons x r ih =>
      intro a n h hx
      have h1 := (hx x (List.mem_cons_self ..))
      have h2 : (a + 1) * old ≤ old ^ n * old := Int.mul_le_mul_of_nonneg_right (by omega) (by omega)
      have h3 := ih (a * old + x) (n + 1) (by rw [Int.pow_succ]; rw [Int.add_mul] at h2; omega) fun y hy => hx y (List.mem_cons_of_mem _ hy)
      rw [List.length_cons]
      have e : n + 1 + r.length = n + (r.length + 1) := by omega
      rw [← e]
      exact h3
  intro l h
  have := this l 0 0 (by simp) h
  simpa [val] using this
/-- what holds between the figures of a row -/
structure CarO (old new : Int) (pre out : List Int) : Prop where
  eq : out = digs new (val old pre)
  nn : 0 ≤ val old pre
  lt : val old pre < 256 ^ pre.length
/-- what holds while a carry goes through -/
structure CarI (old new : Int) (out₀ : List Int) (c₀ : Int) (k : Nat) (carry : Int) (out : List Int) : Prop where
  len : out.length = out₀.length
  dig : ∀ x ∈ out, 0 ≤ x ∧ x < new
  lo : 0 ≤ carry
  hi : carry < old
  eq : out.take k ++ stepC old new carry (out.drop k) = stepC old new c₀ out₀
/-- what holds while the rest is laid behind -/
structure CarW (old new : Int) (out₀ : List Int) (c₀ : Int) (carry : Int) (out : List Int) : Prop where
  lo : 0 ≤ carry
  hi : carry < old
  eq : out ++ digs new carry = out₀ ++ digs new c₀
theorem carO_nil (old new : Int) : CarO old new [] [] := ⟨by simp [val, digs_zero], by simp [val], by simp [val]⟩
theorem pow256 : ∀ n : Nat, (256 : Int) ^ n = 2 ^ (8 * n)
  | 0 => rfl
  | n + 1 => by rw [Int.pow_succ, pow256 n, Nat.mul_add, Int.pow_add]; rfl
theorem CarO.dig {old new : Int} {pre out : List Int} (h : CarO old new pre out) : ∀ x ∈ out, 0 ≤ x ∧ x < new := by
  rw [h.eq]
  exact digs_in _ _ (Nat.le_refl _)
theorem CarO.len {old new : Int} {pre out : List Int} (h : CarO old new pre out) (hn : 2 ≤ new) : out.length ≤ 8 * pre.length := by
  rw [h.eq]
  exact digs_len hn _ _ (by rw [← pow256]; exact h.lt)
theorem CarO.step {old new : Int} {pre out : List Int} {n : Int} (h : CarO old new pre out) (hn : 2 ≤ new) (ho : 1 ≤ old) (ho' : old ≤ 256) (h0 : 0 ≤ n) (h1 : n < old) : CarO old new (pre ++ [n]) (stepC old new n out) := by
  have hv : 0 ≤ val old pre * old := Int.mul_nonneg h.nn (by omega)
  refine ⟨?_, ?_, ?_⟩
  · rw [h.eq, stepC_digs hn ho _ _ _ (Nat.le_refl _) h.nn h0, val_snoc, Int.add_comm]
  · rw [val_snoc]; omega
  · rw [val_snoc, List.length_append, List.length_singleton, Int.pow_succ]
    have h2 : (val old pre + 1) * old ≤ 256 ^ pre.length * old := Int.mul_le_mul_of_nonneg_right (by have := h.lt; omega) (by omega)
    have h3 : (256 : Int) ^ pre.length * old ≤ 256 ^ pre.length * 256 := Int.mul_le_mul_of_nonneg_left ho' (by have := h.nn; have := h.lt; omega)
    rw [Int.add_mul] at h2
    omega
theorem carI_start {old new : Int} {pre out : List Int} {n : Int} (h : CarO old new pre out) (h0 : 0 ≤ n) (h1 : n < old) : CarI old new out n 0 n out :=
  ⟨rfl, h.dig, h0, h1, rfl⟩
theorem CarI.step {old new : Int} {out₀ : List Int} {c₀ : Int} {k : Nat} {c : Int} {out : List Int} (h : CarI old new out₀ c₀ k c out) (hn : 2 ≤ new) (hk : k < out.length) :
    CarI old new out₀ c₀ (k + 1) ((c + out.getD k 0 * old).fdiv new) (out.set k ((c + out.getD k 0 * old).fmod new)) := by
  have hd : 0 ≤ out.getD k 0 ∧ out.getD k 0 < new := by
    rw [List.getD_eq_getElem?_getD, List.getElem?_eq_getElem hk]
    exact h.dig _ (List.getElem_mem hk)
  have hlo := h.lo
  have hhi := h.hi
  have hp : 0 ≤ out.getD k 0 * old := Int.mul_nonneg hd.1 (by omega)
  have hp2 : out.getD k 0 * old ≤ (new - 1) * old := Int.mul_le_mul_of_nonneg_right (by omega) (by omega)
  rw [Int.fdiv_eq_ediv_of_nonneg _ (by omega), Int.fmod_eq_emod_of_nonneg _ (by omega)]
  refine ⟨by rw [List.length_set]; exact h.len, ?_, Int.ediv_nonneg (by omega) (by omega), ?_, ?_⟩
  · intro x hx
    rcases List.mem_or_eq_of_mem_set hx with hx | rfl
    · exact h.dig x hx
    · exact ⟨Int.emod_nonneg _ (by omega), Int.emod_lt_of_pos _ (by omega)⟩
  · refine Int.ediv_lt_of_lt_mul (by omega) ?_
    rw [Int.sub_mul] at hp2
    rw [Int.mul_comm old new]
    omega
  · rw [← h.eq]
    have e1 : out.drop k = out.getD k 0 :: out.drop (k + 1) := by
      rw [List.drop_eq_getElem_cons hk, List.getD_eq_getElem?_getD, List.getElem?_eq_getElem hk]
      rfl
    rw [e1]
    have e2 : (out.set k ((c + out.getD k 0 * old) % new)).take (k + 1) = out.take k ++ [(c + out.getD k 0 * old) % new] := by
      rw [List.take_set, List.take_succ_eq_append_getElem hk, List.set_append_right _ _ (by rw [List.length_take]; omega)]
      have : k - (out.take k).length = 0 := by rw [List.length_take]; omega
      rw [this]
      rfl
    have e3 : (out.set k ((c + out.getD k 0 * old) % new)).drop (k + 1) = out.drop (k + 1) := by
      rw [List.drop_set_of_lt (by omega)]
    rw [e2, e3, List.append_assoc]
    rfl
theorem CarI.done {old new : Int} {out₀ : List Int} {c₀ : Int} {k : Nat} {c : Int} {out : List Int} (h : CarI old new out₀ c₀ k c out) (hk : k = out.length) : out ++ digs new c = stepC old new c₀ out₀ := by
  have := h.eq
  rw [hk, List.take_length, List.drop_length] at this
  exact this
theorem carW_start {old new : Int} {c : Int} {out : List Int} (h0 : 0 ≤ c) (h1 : c < old) : CarW old new out c c out := ⟨h0, h1, rfl⟩
theorem CarW.step {old new : Int} {out₀ : List Int} {c₀ c : Int} {out : List Int} (h : CarW old new out₀ c₀ c out) (hn : 2 ≤ new) (hc : 0 < c) : CarW old new out₀ c₀ (c.fdiv new) (out ++ [c.fmod new]) ∧ (c.fdiv new).toNat < c.toNat := by
  have hhi := h.hi
  rw [Int.fdiv_eq_ediv_of_nonneg _ (by omega), Int.fmod_eq_emod_of_nonneg _ (by omega)]
  have h1 : c / new < c := Int.ediv_lt_self_of_pos_of_ne_one (by omega) (by omega)
  have h2 : 0 ≤ c / new := Int.ediv_nonneg (by omega) (by omega)
  refine ⟨⟨h2, by omega, ?_⟩, by omega⟩
  rw [← h.eq, digs_pos hc hn, List.append_assoc]
  rfl
theorem CarW.done {old new : Int} {out₀ : List Int} {c₀ c : Int} {out : List Int} (h : CarW old new out₀ c₀ c out) (hc : ¬ 0 < c) : out = out₀ ++ digs new c₀ := by
  rw [← h.eq, digs_zero hc, List.append_nil]
theorem CarW.len {old new : Int} {out₀ : List Int} {c₀ c : Int} {out : List Int} (h : CarW old new out₀ c₀ c out) : out.length ≤ (out₀ ++ digs new c₀).length := by
  rw [← h.eq, List.length_append]
  omega

end
/-! Loops -/
section
/- --pure -/
/-! loops whose state is one list of the ledger and some names -/
abbrev S1 (ι : Type) := (List Int × List Value × Nat) × ι
abbrev Led1 (ι : Type) (l : Addr) (ex : List (Addr × Obj)) (c : S1 ι) : List (Addr × Obj) := (l, PySem.W.listOf c.1.2.1.toArray c.1.2.2) :: ex
abbrev K1 {ι : Type} (l : Addr) (ex : List (Addr × Obj)) (psI : ι → List (Str × Value)) (x : Str) (stored : List Str) (m₀ : Str → Option Value) (P : List Int → List Int → ι → Prop) (pre : List Int) :=
  KstS (σ := S1 ι) (Led1 ι l ex) (fun c => psI c.2) (fun c => IntsAre c.1.2.1 c.1.1) x stored m₀ (fun pre c => P pre c.1.1 c.2) pre
section
variable {prog : Program} {w : World} {A : Around} {E : Value → Shared → Prop} {s : Shared} {env : Env} {h₀ : Heap} {x : Str} {body : List Stmt} {Q : Flow → Shared → Prop}
  {ι : Type} {l : Addr} {n₀ : Nat} {vs₀ : List Value} {xs₀ : List Int} {ex : List (Addr × Obj)} {m₀ : Str → Option Value}

theorem end1 {psI : ι → List (Str × Value)} {stored : List Str} {P : List Int → List Int → ι → Prop} {pre : List Int} {L : Addr} {m' : Str → Option Value} {own news' : List (Addr × Obj)} {h' : Heap} {tk n : Nat} {out : List Int} {vs : List Value} (i : ι) {s₁ : Shared}
    (F : Fr h₀ L h' m') (N : News h₀ L h' news') (hl : ∀ p ∈ (l, PySem.W.listOf vs.toArray n) :: ex, p ∈ news') (ho : ∀ p ∈ own, p ∈ news') (hi : IntsAre vs out)
    (hk : ∀ p ∈ psI i, m' p.1 = some p.2) (hr : ∀ z, z ≠ x → (∀ p ∈ psI i, z ≠ p.1) → stored.contains z = false → m' z = m₀ z) (hp : P pre out i) :
    InvEndN h₀ L (K1 l ex psI x stored m₀ P pre) own (l :: ex.map (·.1)) s₁ { s₁ with heap := h', toks := tk } :=
  kst_end (σ := S1 ι) ((out, vs, n), i) F N hl ho rfl hi hk hr hp

theorem loop1B {b : Array UInt8} {ks : List Int} {tb : Tok} (psI : ι → List (Str × Value)) (i₀ : ι) (stored : List Str) (P : List Int → List Int → ι → Prop)
    (hb : KBw.bInts b = ks) (hh : A.handled = none) (F : Fr h₀ env.locals s.heap m₀) (N : News h₀ env.locals s.heap ((l, PySem.W.listOf vs₀.toArray n₀) :: ex)) (hi : IntsAre vs₀ xs₀) (hk : ∀ p ∈ psI i₀, m₀ p.1 = some p.2) (hp : P [] xs₀ i₀)
    (turn : ∀ (out : List Int) (vs : List Value) (n : Nat) (i : ι) (pre post : List Int) (k : Int) (t : Tok) (u : Str → Option Value) (h : Heap) (tk : Nat) (own : List (Addr × Obj)), ks = pre ++ k :: post → 0 ≤ k → k < 256 → OwnOff own (l :: ex.map (·.1)) → IntsAre vs out → P pre out i →
      Fr h₀ env.locals h (fun y => if y = x then some (.int k t) else kstB (fun z => if stored.contains z then u z else m₀ z) (psI i) y) → News h₀ env.locals h ((l, PySem.W.listOf vs.toArray n) :: (ex ++ own)) →
      wpAny (model prog w) A (execs body env) (InvPostN h₀ env.locals (K1 l ex psI x stored m₀ P (pre ++ [k])) own (l :: ex.map (·.1)) { s with heap := h, toks := tk } Q) E { s with heap := h, toks := tk })
    (done : ∀ (out : List Int) (vs : List Value) (n : Nat) (i : ι) (u : Str → Option Value) (h : Heap) (tk : Nat), IntsAre vs out → P ks out i →
      Fr h₀ env.locals h (fun y => if y = x then u y else kstB (fun z => if stored.contains z then u z else m₀ z) (psI i) y) → News h₀ env.locals h ((l, PySem.W.listOf vs.toArray n) :: ex) → Q .next { s with heap := h, toks := tk }) :
    wpAny (model prog w) A (pyIter (.bytes b tb)) (fun it s₂ => LoopAtV prog w A h₀ env x body Q E it s₂) E s :=
  KStb.kst_bytes (σ := S1 ι) (Led1 ι l ex) (fun c => psI c.2) (fun c => IntsAre c.1.2.1 c.1.1) stored (fun pre c => P pre c.1.1 c.2) ((xs₀, vs₀, n₀), i₀) hb rfl hh F N hi hk hp
    (fun c pre post k t u h tk own e _ h1 h2 h3 h4 h5 h6 h7 => turn c.1.1 c.1.2.1 c.1.2.2 c.2 pre post k t u h tk own e h1 h2 h3 h4 h5 h6 h7)
    (fun c u h tk _ h1 h2 h3 h4 => done c.1.1 c.1.2.1 c.1.2.2 c.2 u h tk h1 h2 h3 h4)

theorem loop1L {a : Addr} {avs : List Value} {ks : List Int} (psI : ι → List (Str × Value)) (i₀ : ι) (stored : List Str) (P : List Int → List Int → ι → Prop)
    (ha : h₀.IsList a avs.toArray) (hb : IntsAre avs ks) (hh : A.handled = none) (F : Fr h₀ env.locals s.heap m₀) (N : News h₀ env.locals s.heap ((l, PySem.W.listOf vs₀.toArray n₀) :: ex)) (hi : IntsAre vs₀ xs₀) (hk : ∀ p ∈ psI i₀, m₀ p.1 = some p.2) (hp : P [] xs₀ i₀)
    (turn : ∀ (out : List Int) (vs : List Value) (n : Nat) (i : ι) (pre post : List Int) (k : Int) (t : Tok) (u : Str → Option Value) (h : Heap) (tk : Nat) (own : List (Addr × Obj)), ks = pre ++ k :: post → OwnOff own (l :: ex.map (·.1)) → IntsAre vs out → P pre out i →
      Fr h₀ env.locals h (fun y => if y = x then some (.int k t) else kstB (fun z => if stored.contains z then u z else m₀ z) (psI i) y) → News h₀ env.locals h ((l, PySem.W.listOf vs.toArray n) :: (ex ++ own)) →
      wpAny (model prog w) A (execs body env) (InvPostN h₀ env.locals (K1 l ex psI x stored m₀ P (pre ++ [k])) own (l :: ex.map (·.1)) { s with heap := h, toks := tk } Q) E { s with heap := h, toks := tk })
    (done : ∀ (out : List Int) (vs : List Value) (n : Nat) (i : ι) (u : Str → Option Value) (h : Heap) (tk : Nat), IntsAre vs out → P ks out i →
      Fr h₀ env.locals h (fun y => if y = x then u y else kstB (fun z => if stored.contains z then u z else m₀ z) (psI i) y) → News h₀ env.locals h ((l, PySem.W.listOf vs.toArray n) :: ex) → Q .next { s with heap := h, toks := tk }) :
    wpAny (model prog w) A (pyIter (.ref a)) (fun it s₂ => LoopAtV prog w A h₀ env x body Q E it s₂) E s :=
  kst_list (σ := S1 ι) (Led1 ι l ex) (fun c => psI c.2) (fun c => IntsAre c.1.2.1 c.1.1) stored (fun pre c => P pre c.1.1 c.2) ((xs₀, vs₀, n₀), i₀) hh ha hb F N hi hk hp
    (fun c pre post k t u h tk own e _ h3 h4 h5 h6 h7 => turn c.1.1 c.1.2.1 c.1.2.2 c.2 pre post k t u h tk own e h3 h4 h5 h6 h7)
    (fun c u h tk h1 h2 h3 h4 => done c.1.1 c.1.2.1 c.1.2.2 c.2 u h tk h1 h2 h3 h4)

theorem loop1R {r : Addr} {a₀ b₀ : Int} {t₀ u₀ v₀ : Tok} {n : Nat} (psI : ι → List (Str × Value)) (i₀ : ι) (stored : List Str) (P : List Int → List Int → ι → Prop)
    (hr : IsRange s.heap r a₀ b₀ 1 t₀ u₀ v₀) (hsmall : Builtin.Range.small a₀ b₀ 1 = true) (hn : Builtin.Range.rangeSize a₀ b₀ 1 = (n : Int)) (hh : A.handled = none) (F : Fr h₀ env.locals s.heap m₀) (N : News h₀ env.locals s.heap ((l, PySem.W.listOf vs₀.toArray n₀) :: ex)) (hi : IntsAre vs₀ xs₀) (hk : ∀ p ∈ psI i₀, m₀ p.1 = some p.2) (hp : P [] xs₀ i₀)
    (turn : ∀ (out : List Int) (vs : List Value) (c : Nat) (i : ι) (pre : List Int) (k : Int) (t : Tok) (u : Str → Option Value) (h : Heap) (tk : Nat) (own : List (Addr × Obj)), k = a₀ + (pre.length : Int) → pre.length < n → OwnOff own (l :: ex.map (·.1)) → IntsAre vs out → P pre out i →
      Fr h₀ env.locals h (fun y => if y = x then some (.int k t) else kstB (fun z => if stored.contains z then u z else m₀ z) (psI i) y) → News h₀ env.locals h ((l, PySem.W.listOf vs.toArray c) :: (ex ++ own)) →
      wpAny (model prog w) A (execs body env) (InvPostN h₀ env.locals (K1 l ex psI x stored m₀ P (pre ++ [k])) own (l :: ex.map (·.1)) { s with heap := h, toks := tk } Q) E { s with heap := h, toks := tk })
    (done : ∀ (out : List Int) (vs : List Value) (c : Nat) (i : ι) (u : Str → Option Value) (h : Heap) (tk : Nat), IntsAre vs out → P (rangeKs a₀ n) out i →
      Fr h₀ env.locals h (fun y => if y = x then u y else kstB (fun z => if stored.contains z then u z else m₀ z) (psI i) y) → News h₀ env.locals h ((l, PySem.W.listOf vs.toArray c) :: ex) → Q .next { s with heap := h, toks := tk }) :
    wpAny (model prog w) A (pyIter (.ref r)) (fun it s₂ => LoopAtV prog w A h₀ env x body Q E it s₂) E s :=
  kst_range (σ := S1 ι) (Led1 ι l ex) (fun c => psI c.2) (fun c => IntsAre c.1.2.1 c.1.1) stored (fun pre c => P pre c.1.1 c.2) ((xs₀, vs₀, n₀), i₀) hh hr hsmall hn F N hi hk hp
    (fun c pre k t u h tk own e h2 h3 h4 h5 h6 h7 => turn c.1.1 c.1.2.1 c.1.2.2 c.2 pre k t u h tk own e h2 h3 h4 h5 h6 h7)
    (fun c u h tk h1 h2 h3 h4 => done c.1.1 c.1.2.1 c.1.2.2 c.2 u h tk h1 h2 h3 h4)

abbrev W1 {ι : Type} (h₀ : Heap) (L : Addr) (s : Shared) (l : Addr) (ex : List (Addr × Obj)) (psI : ι → List (Str × Value)) (stored : List Str) (m₀ : Str → Option Value) (P : List Int → ι → Prop) (μ : List Int → ι → Nat) (Q : Flow → Shared → Prop) (c : S1 ι) :=
  KswPost (σ := S1 ι) h₀ L s (Led1 ι l ex) (fun c => psI c.2) (fun c => IntsAre c.1.2.1 c.1.1) stored m₀ (fun c => P c.1.1 c.2) (fun c => μ c.1.1 c.2) Q c
theorem while1 {test : Expr} {pos : Pos} {L : Addr} (psI : ι → List (Str × Value)) (i₀ : ι) (stored : List Str) (P : List Int → ι → Prop) (μ : List Int → ι → Nat)
    (F : Fr h₀ L s.heap m₀) (N : News h₀ L s.heap ((l, PySem.W.listOf vs₀.toArray n₀) :: ex)) (hi : IntsAre vs₀ xs₀) (hk : ∀ p ∈ psI i₀, m₀ p.1 = some p.2) (hp : P xs₀ i₀)
    (turn : ∀ (out : List Int) (vs : List Value) (n : Nat) (i : ι) (u : Str → Option Value) (h : Heap) (tk : Nat), IntsAre vs out → P out i → Fr h₀ L h (kstB (fun z => if stored.contains z then u z else m₀ z) (psI i)) → News h₀ L h ((l, PySem.W.listOf vs.toArray n) :: ex) →
      wpAny (model prog w) A (isTrue test env (eval test env)) (fun b s₂ =>
        if b = true then wpAny (model prog w) A (execs body env) (W1 h₀ L s l ex psI stored m₀ P μ Q ((out, vs, n), i)) E s₂ else Q .next s₂) E { s with heap := h, toks := tk })
    (hE : PassesOwn (model prog w) A env E) :
    wpAny (model prog w) A (exec (.While test body [] pos) env) Q E s :=
  ksw_while (σ := S1 ι) (Led1 ι l ex) (fun c => psI c.2) (fun c => IntsAre c.1.2.1 c.1.1) stored (fun c => P c.1.1 c.2) (fun c => μ c.1.1 c.2) ((xs₀, vs₀, n₀), i₀) F N hi hk hp
    (fun c u h tk h1 h2 h3 h4 => turn c.1.1 c.1.2.1 c.1.2.2 c.2 u h tk h1 h2 h3 h4) hE
theorem endW1 {psI : ι → List (Str × Value)} {stored : List Str} {P : List Int → ι → Prop} {μ : List Int → ι → Nat} {L : Addr} {m' : Str → Option Value} {news' : List (Addr × Obj)} {h' : Heap} {tk n : Nat} {out : List Int} {vs : List Value} (i : ι) {c : S1 ι}
    (F : Fr h₀ L h' m') (N : News h₀ L h' news') (hl : ∀ p ∈ (l, PySem.W.listOf vs.toArray n) :: ex, p ∈ news') (hi : IntsAre vs out)
    (hk : ∀ p ∈ psI i, m' p.1 = some p.2) (hr : ∀ z, (∀ p ∈ psI i, z ≠ p.1) → stored.contains z = false → m' z = m₀ z) (hp : P out i) (hm : μ out i < μ c.1.1 c.2) :
    KswEnd (σ := S1 ι) h₀ L s (Led1 ι l ex) (fun c => psI c.2) (fun c => IntsAre c.1.2.1 c.1.1) stored m₀ (fun c => P c.1.1 c.2) (fun c => μ c.1.1 c.2) c { s with heap := h', toks := tk } :=
  ksw_end (σ := S1 ι) ((out, vs, n), i) F N hl hi hk hr hp hm
end
theorem range0_small {n : Nat} (h : n < 2 ^ 62) : Builtin.Range.small 0 (n : Int) 1 = true := small_one (by decide) (by decide) (by omega) (by omega)
theorem range0_size (n : Nat) : Builtin.Range.rangeSize 0 (n : Int) 1 = (n : Int) := by
  rw [rangeSize_one]
  split <;> omega
/-! a loop whose state lives in one cell -/
abbrev KC {ι : Type} (a : Addr) (ex : List (Addr × Obj)) (vl : ι → Value) (psI : ι → List (Str × Value)) (x : Str) (stored : List Str) (m₀ : Str → Option Value) (P : List Int → ι → Prop) (pre : List Int) :=
  KstS (σ := Obj × ι) (fun c => (a, c.1) :: ex) (fun c => psI c.2) (fun c => c.1.data = .cell (some (vl c.2))) x stored m₀ (fun pre c => P pre c.2) pre
section
variable {prog : Program} {w : World} {A : Around} {E : Value → Shared → Prop} {s : Shared} {env : Env} {h₀ : Heap} {x : Str} {body : List Stmt} {Q : Flow → Shared → Prop}
  {ι : Type} {a : Addr} {o₀ : Obj} {ex : List (Addr × Obj)} {m₀ : Str → Option Value}
theorem loopBc {b : Array UInt8} {ks : List Int} {tb : Tok} (vl : ι → Value) (psI : ι → List (Str × Value)) (i₀ : ι) (stored : List Str) (P : List Int → ι → Prop)
    (hb : KBw.bInts b = ks) (hh : A.handled = none) (F : Fr h₀ env.locals s.heap m₀) (N : News h₀ env.locals s.heap ((a, o₀) :: ex)) (ho : o₀.data = .cell (some (vl i₀))) (hk : ∀ p ∈ psI i₀, m₀ p.1 = some p.2) (hp : P [] i₀)
    (turn : ∀ (o : Obj) (i : ι) (pre post : List Int) (k : Int) (t : Tok) (u : Str → Option Value) (h : Heap) (tk : Nat) (own : List (Addr × Obj)), ks = pre ++ k :: post → 0 ≤ k → k < 256 → OwnOff own (a :: ex.map (·.1)) → o.data = .cell (some (vl i)) → P pre i →
      Fr h₀ env.locals h (fun y => if y = x then some (.int k t) else kstB (fun z => if stored.contains z then u z else m₀ z) (psI i) y) → News h₀ env.locals h ((a, o) :: (ex ++ own)) →
      wpAny (model prog w) A (execs body env) (InvPostN h₀ env.locals (KC a ex vl psI x stored m₀ P (pre ++ [k])) own (a :: ex.map (·.1)) { s with heap := h, toks := tk } Q) E { s with heap := h, toks := tk })
    (done : ∀ (o : Obj) (i : ι) (u : Str → Option Value) (h : Heap) (tk : Nat), o.data = .cell (some (vl i)) → P ks i →
      Fr h₀ env.locals h (fun y => if y = x then u y else kstB (fun z => if stored.contains z then u z else m₀ z) (psI i) y) → News h₀ env.locals h ((a, o) :: ex) → Q .next { s with heap := h, toks := tk }) :
    wpAny (model prog w) A (pyIter (.bytes b tb)) (fun it s₂ => LoopAtV prog w A h₀ env x body Q E it s₂) E s :=
  KStb.kst_bytes (σ := Obj × ι) (fun c => (a, c.1) :: ex) (fun c => psI c.2) (fun c => c.1.data = .cell (some (vl c.2))) stored (fun pre c => P pre c.2) (o₀, i₀) hb rfl hh F N ho hk hp
    (fun c pre post k t u h tk own e _ h1 h2 h3 h4 h5 h6 h7 => turn c.1 c.2 pre post k t u h tk own e h1 h2 h3 h4 h5 h6 h7)
    (fun c u h tk _ h1 h2 h3 h4 => done c.1 c.2 u h tk h1 h2 h3 h4)
end
/-! a loop over a tuple that stands below -/
section
variable {prog : Program} {w : World} {A : Around} {E : Value → Shared → Prop} {s : Shared} {env : Env} {h₀ : Heap} {x : Str} {body : List Stmt} {Q : Flow → Shared → Prop} {m₀ : Str → Option Value} {news : List (Addr × Obj)}
theorem loopT {ax : Addr} {its : List Value} (J : Nat → (Str → Option Value) → List (Addr × Obj) → Prop) (hh : A.handled = none) (ht : h₀.IsTuple ax its.toArray) (F : Fr h₀ env.locals s.heap m₀) (N : News h₀ env.locals s.heap news) (hj : J 0 m₀ news)
    (turn : ∀ i v m₁ news₁ h tk own, its[i]? = some v → OwnOff own (news.map (·.1)) → J i m₁ news₁ → Fr h₀ env.locals h (fun y => if y = x then some v else m₁ y) → News h₀ env.locals h (news₁ ++ own) →
      wpAny (model prog w) A (execs body env) (InvPostN h₀ env.locals (J (i + 1)) own (news.map (·.1)) { s with heap := h, toks := tk } Q) E { s with heap := h, toks := tk })
    (done : ∀ m₁ news₁ h tk, J its.length m₁ news₁ → Fr h₀ env.locals h m₁ → News h₀ env.locals h news₁ → Q .next { s with heap := h, toks := tk }) :
    wpAny (model prog w) A (pyIter (.ref ax)) (fun it s₂ => LoopAtV prog w A h₀ env x body Q E it s₂) E s := by
  have hlt : ax < s.heap.objs.size := by
    obtain ⟨o, e, _⟩ := ht
    exact Heap.lt_size (F.keep _ _ e)
  have htup : s.heap.IsTuple ax its.toArray := ht.at fun o e => F.keep _ _ e
  refine wpAny_pyIter_tuple htup ?_
  have up : ∀ b ob, s.heap.get? b = some ob → (s.heap.push { cls := .type "tuple_iterator", data := .fields #[.ref ax, .int 0 0] }).get? b = some ob := fun b ob e => Heap.get?_push_of_some _ e
  have hax : h₀.get? ax ≠ none := by
    obtain ⟨o, e, _⟩ := ht
    rw [e]
    exact Option.some_ne_none _
  refine loop_invN (J := J) (Walks.tuple hh s.heap.objs.size ax (Nat.ne_of_lt hlt) its.toArray) ?_ ?_ ?_ ?_ ⟨⟨_, Heap.get?_push_size _ rfl, rfl, rfl⟩, htup.push _⟩ (F.keeps up) (N.grown up) hj ?_ ?_
  · intro hm
    rcases List.mem_cons.mp hm with e | hm
    · exact absurd F.ns.lt (e ▸ Nat.lt_irrefl _)
    · have e := List.mem_singleton.mp hm
      have := F.above
      obtain ⟨o, e', _⟩ := ht
      exact absurd (Heap.lt_size e') (by rw [← e]; exact Nat.not_lt.mpr this)
  · intro b hb
    rw [List.mem_singleton.mp hb]
    exact next_is_new F
  · intro p hp hI
    exact absurd (Heap.lt_size (N p hp).1) ((List.mem_singleton.mp hI) ▸ Nat.lt_irrefl _)
  · intro p hp hI
    rcases List.mem_cons.mp hI with e | hm
    · exact absurd (Heap.lt_size (N p hp).1) (e ▸ Nat.lt_irrefl _)
    · exact hax (List.mem_singleton.mp hm ▸ (N p hp).2.2)
  · intro i v m₁ news₁ h tk own _ hv _ hoff hJ F₁ N₁
    exact turn i v m₁ news₁ h tk own (by simpa using hv) hoff hJ F₁ N₁
  · intro m₁ news₁ h tk hJ F₁ N₁
    exact done m₁ news₁ h tk (by simpa using hJ) F₁ N₁
end
/-- one int name goes through a loop over a tuple below -/
noncomputable def JH (nm x : Str) (m₀ : Str → Option Value) (news : List (Addr × Obj)) (H : Nat → Int) (i : Nat) (m : Str → Option Value) (nx : List (Addr × Obj)) : Prop :=
  nx = news ∧ (∃ tok, m nm = some (.int (H i) tok)) ∧ ∀ z, z ≠ x → z ≠ nm → m z = m₀ z
section
variable {prog : Program} {w : World} {A : Around} {E : Value → Shared → Prop} {s : Shared} {env : Env} {h₀ : Heap} {x : Str} {body : List Stmt} {Q : Flow → Shared → Prop} {m₀ : Str → Option Value} {news : List (Addr × Obj)}
theorem endH {nm : Str} {H : Nat → Int} {i : Nat} {L : Addr} {m' : Str → Option Value} {own news' : List (Addr × Obj)} {h' : Heap} {tk : Nat} {tok : Tok} {s₁ : Shared} (F : Fr h₀ L h' m') (N : News h₀ L h' news') (hn : ∀ p ∈ news, p ∈ news') (ho : ∀ p ∈ own, p ∈ news')
    (hk : m' nm = some (.int (H i) tok)) (hr : ∀ z, z ≠ x → z ≠ nm → m' z = m₀ z) : InvEndN h₀ L (JH nm x m₀ news H i) own (news.map (·.1)) s₁ { s₁ with heap := h', toks := tk } :=
  ⟨h', tk, m', news', news, rfl, F, N, hn, ho, rfl, rfl, ⟨tok, hk⟩, hr⟩
theorem loopTH {ax : Addr} {its : List Value} {nm : Str} {t₀ : Tok} (H : Nat → Int) (hx : nm ≠ x) (hh : A.handled = none) (ht : h₀.IsTuple ax its.toArray) (F : Fr h₀ env.locals s.heap m₀) (N : News h₀ env.locals s.heap news) (hk : m₀ nm = some (.int (H 0) t₀))
    (turn : ∀ i v tok h tk own, its[i]? = some v → OwnOff own (news.map (·.1)) → Fr h₀ env.locals h (fun y => if y = x then some v else if y = nm then some (.int (H i) tok) else m₀ y) → News h₀ env.locals h (news ++ own) →
      wpAny (model prog w) A (execs body env) (InvPostN h₀ env.locals (JH nm x m₀ news H (i + 1)) own (news.map (·.1)) { s with heap := h, toks := tk } Q) E { s with heap := h, toks := tk })
    (done : ∀ tok gv h tk, Fr h₀ env.locals h (fun y => if y = x then gv else if y = nm then some (.int (H its.length) tok) else m₀ y) → News h₀ env.locals h news → Q .next { s with heap := h, toks := tk }) :
    wpAny (model prog w) A (pyIter (.ref ax)) (fun it s₂ => LoopAtV prog w A h₀ env x body Q E it s₂) E s := by
  have same : ∀ {v : Option Value} {m₁ : Str → Option Value} {tok : Tok} {k : Int}, m₁ nm = some (.int k tok) → (∀ z, z ≠ x → z ≠ nm → m₁ z = m₀ z) → ∀ y, (if y = x then v else m₁ y) = (if y = x then v else if y = nm then some (.int k tok) else m₀ y) := by
    intro v m₁ tok k h1 h2 y
    by_cases e : y = x
    · rw [if_pos e, if_pos e]
    · rw [if_neg e, if_neg e]
      by_cases e2 : y = nm
      · rw [if_pos e2, e2, h1]
      · rw [if_neg e2, h2 y e e2]
  refine loopT (JH nm x m₀ news H) hh ht F N ⟨rfl, ⟨t₀, hk⟩, fun _ _ _ => rfl⟩ ?_ ?_
  · rintro i v m₁ news₁ h tk own hv hoff ⟨rfl, ⟨tok, h1⟩, h2⟩ F₁ N₁
    refine turn i v tok h tk own hv hoff ?_ N₁
    have e := funext (same (v := some v) h1 h2)
    exact e ▸ F₁
  · rintro m₁ news₁ h tk ⟨rfl, ⟨tok, h1⟩, h2⟩ F₁ N₁
    refine done tok (m₁ x) h tk ?_ N₁
    have e := funext (same (v := m₁ x) h1 h2)
    have e2 : (fun y => if y = x then m₁ x else m₁ y) = m₁ := by
      funext y
      by_cases q : y = x
      · rw [if_pos q, q]
      · rw [if_neg q]
    rw [← e, e2]
    exact F₁
end

end
/-! F2 -/
section
local macro_rules | `(tactic| walk_at $s:str) => `(tactic| k_extra $s)
local macro_rules | `(tactic| k_all) => `(tactic| (refine' List.forall_mem_append.mpr ⟨?zka, ?zkb⟩; (case zka => k_all); (case zkb => k_all)))
set_option maxHeartbeats 8000000 in
theorem carried_bytes (b : Array UInt8) (ks : List Int) (t t1 t2 : Tok) (new : Int) (hk : KBw.bInts b = ks) (hb : ks.length ≤ 64) (h2 : 2 ≤ new) (h3 : new ≤ 256) :
    Spec 99 1 8 [.bytes b t, .int 256 t1, .int new t2] [] (fun _ => True) (PList (digs new (val 256 ks)).reverse) := by
  intro prog w mean mg mb A env outer A₀ base h₀ L m s Q E B F X T hhd hA hf hke hd hu hpre hret
  obtain ⟨hdl, dp, fr, gd, un⟩ := A
  dsimp only at hhd hA hd hu hpre
  subst hhd hA
  refine wpAny_call ?_
  k_dflt (refine' enterP ?k1 ?k2 ?k3 ?k5 ?kA ?kF ?kK ?k6 ?k7 ?k8 ?k9 ?kB ?_ ?c2 ?c3 ?c4 ?c5; (case kA => exact rfl); (case kF => assumption); (case kK => assumption); (case k1 => k_asm); (case k2 => k_asm); (case k3 => k_asm);  (case k5 => k_asm); (case k6 => k_is); (case k7 => k_is); (case k8 => (try dsimp only); omega); (case k9 => first | exact BindsTo.of_eq rfl | exact binds_K (by k_in) rfl (by k_is) rfl rfl rfl | (refine' kp_binds ?kx ?ke; (case kx => k_in); (case ke => exact fun _ => rfl))); (case c5 => decide); (case kB => exact locs rfl); (case c2 => exact rfl); (case c3 => exact rfl); (case c4 => exact rfl); k_whole; intro L' h' F' N' B' X' T'; (try dsimp only); (try k_lift B'); (try k_fold))
  (k_with_none; (k_with "pyIter ref" => refine Stop.out ?_); (k_with "pyIter bytes" => refine Stop.out ?_); (k_with "exec While" => refine Stop.out ?_); (k_with "exec While Compare" => refine Stop.out ?_); (k_with "exec While BoolOp" => refine Stop.out ?_); (k_with "exec While Compare cons nil" => refine Stop.out ?_); (k_with "exec While Name" => refine Stop.out ?_); (k_with "InvEndN" => refine Stop.out ?_); (k_with "KswEnd" => refine Stop.out ?_))
  k_steps
  refine Stop.mk ?_
  rename Fr s.heap _ _ _ => FF
  rename News s.heap _ _ _ => NN
  refine loop1B (ι := Unit) (ex := []) (vs₀ := []) (xs₀ := []) (fun _ => []) () [Str.ofString "carry", Str.ofString "k"] (fun pre out _ => CarO 256 new pre out ∧ out.length ≤ 8 * pre.length) hk rfl FF NN .nil (fun _ h => nomatch h) ⟨⟨by simp [val, digs_zero], by simp [val], by simp [val]⟩, by simp⟩ ?zq5 ?zq6
  case zq5 =>
    clear FF NN
    intro out ovs oc _ pre post n tn u h tk own hks hlo hhi hoff hfacts hp FF NN
    obtain ⟨hcar, hol⟩ := hp
    dsimp only [List.map_nil, List.nil_append] at hoff NN
    have hpl : pre.length < ks.length := by rw [hks, List.length_append, List.length_cons]; omega
    k_steps
    refine Stop.mk ?_
    rename Fr s.heap _ _ _ => FF
    rename News s.heap _ _ _ => NN
    rename IsRange _ _ _ _ _ _ _ _ => RR
    refine loop1R (ι := Int × Tok) (ex := own) (fun i => [(Str.ofString "carry", .int i.1 i.2)]) (n, tn) [] (fun pr o i => CarI 256 new out n pr.length i.1 o ∧ o.length = out.length) RR (range0_small (by omega)) (range0_size _) rfl FF NN hfacts (fun p hp => by rw [List.mem_singleton.mp hp]; rfl) ⟨carI_start hcar hlo hhi, rfl⟩ ?zr5 ?zr6
    case zr5 =>
      clear FF NN RR
      intro o2 ovs2 oc2 i2 pr k tk2 u2 h2' tkk own2 hkp hpn hoff2 hfacts2 hp2 FF NN
      obtain ⟨c2, ct2⟩ := i2
      obtain ⟨hcar2, hol2⟩ := hp2
      dsimp only at hcar2 hol2 FF NN
      rw [Int.zero_add] at hkp
      subst hkp
      k_steps
      (refine Stop.mk ?_; (rename Fr s.heap _ _ _ => FF); (rename News s.heap _ _ _ => NN); (try simp only [List.push_toArray] at NN); refine end1 (out := ?zo_5) (vs := ?zv_5) (n := ?zn_5) (?zi1, ?zi2) FF NN ?zE1_5 ?zE2_5 ?zE3_5 ?zE4_5 ?zE5_5 ?zE6_5; (case zE1_5 => (refine List.forall_mem_cons.mpr ⟨by k_memK, ?_⟩; intro p hp; kst_mem)); (case zE2_5 => (intro p hp; kst_mem)); (case zE3_5 => first | assumption | k_intsEnd); (case zE4_5 => kst_all); (case zE5_5 => (intro z h1 h2 h3; (try simp only [List.forall_mem_cons, List.not_mem_nil, false_implies, implies_true, and_true, ne_eq] at h2); (try simp only [List.contains_cons, List.contains_nil, Bool.or_false, Bool.or_eq_false_iff, beq_eq_false_iff_ne, ne_eq] at h3); first | rfl | (simp [kstB, h1, h2, h3]; done) | (simp [kstB, h1, h3]; done) | (simp [kstB, h1, h2]; done) | (simp [kstB, h1]; done))))
      exact ⟨by rw [List.length_append, List.length_singleton]; exact hcar2.step h2 (by omega), by rw [List.length_set]; exact hol2⟩
    case zr6 =>
      clear FF NN RR
      intro o2 ovs2 oc2 i2 u2 h2' tkk hfacts2 hp2 FF NN
      obtain ⟨c2, ct2⟩ := i2
      obtain ⟨hcar2, hol2⟩ := hp2
      dsimp only at hcar2 hol2 FF NN
      rw [rangeKs_length] at hcar2
      have hst := hcar2.done hol2.symm
      dsimp only
      k_steps
      refine Stop.mk ?_; (rename Fr s.heap _ _ _ => FF); (rename News s.heap _ _ _ => NN)
      refine while1 (ι := Int × Tok) (ex := own) (fun i => [(Str.ofString "carry", .int i.1 i.2)]) (c2, ct2) [] (fun o i => CarW 256 new o2 c2 i.1 o ∧ o.length ≤ 8 * 65) (fun _ i => i.1.toNat) FF NN hfacts2 (fun p hp => by rw [List.mem_singleton.mp hp]; rfl) ⟨carW_start hcar2.lo hcar2.hi, by omega⟩ ?zw5 (by passes_own)
      clear FF NN
      intro o3 ovs3 oc3 i3 u3 h3' tkk3 hfacts3 hp3 FF NN
      obtain ⟨c3, ct3⟩ := i3
      obtain ⟨hcar3, hol3⟩ := hp3
      dsimp only at hcar3 hol3 FF NN
      k_steps
      · (dsimp only [W1, KswPost]; (rename Fr s.heap _ _ _ => FF); (rename News s.heap _ _ _ => NN); (try simp only [List.push_toArray] at NN); refine ksw_end (σ := S1 _) ((?zo_7, ?zv_7, ?zn_7), ?zi3, ?zi4) FF NN ?zE1_7 ?zE3_7 ?zE4_7 ?zE5_7 ?zE6_7 ?zE7_7; (case zE1_7 => (dsimp only [Led1]; refine List.forall_mem_cons.mpr ⟨by k_memK, ?_⟩; intro p hp; kst_mem)); (case zE3_7 => first | assumption | k_intsEnd); (case zE4_7 => kst_all); (case zE5_7 => (intro z h2 h3; (try simp only [List.forall_mem_cons, List.not_mem_nil, false_implies, implies_true, and_true, ne_eq] at h2); (try simp only [List.contains_cons, List.contains_nil, Bool.or_false, Bool.or_eq_false_iff, beq_eq_false_iff_ne, ne_eq] at h3); first | rfl | (simp [kstB, h2, h3]; done) | (simp [kstB, h3]; done) | (simp [kstB, h2]; done) | (simp [kstB]; done))))
        · obtain ⟨st1, st2⟩ := hcar3.step h2 (by assumption)
          refine ⟨st1, ?_⟩
          have q1 := st1.len
          have q2 := digs_len h2 8 c2 (by have := hcar2.hi; omega)
          rw [List.length_append] at q1
          rw [List.length_append]
          rw [List.length_append] at q1
          omega
        · exact (hcar3.step h2 (by assumption)).2
      · (refine Stop.mk ?_; (rename Fr s.heap _ _ _ => FF); (rename News s.heap _ _ _ => NN); (try simp only [List.push_toArray] at NN); refine end1 (out := ?zo_8) (vs := ?zv_8) (n := ?zn_8) (()) FF NN ?zE1_8 ?zE2_8 ?zE3_8 ?zE4_8 ?zE5_8 ?zE6_8; (case zE1_8 => (refine List.forall_mem_cons.mpr ⟨by k_memK, ?_⟩; intro p hp; kst_mem)); (case zE2_8 => (intro p hp; kst_mem)); (case zE3_8 => first | assumption | k_intsEnd); (case zE4_8 => kst_all); (case zE5_8 => (intro z h1 h2 h3; (try simp only [List.forall_mem_cons, List.not_mem_nil, false_implies, implies_true, and_true, ne_eq] at h2); (try simp only [List.contains_cons, List.contains_nil, Bool.or_false, Bool.or_eq_false_iff, beq_eq_false_iff_ne, ne_eq] at h3); first | rfl | (simp [kstB, h1, h2, h3]; done) | (simp [kstB, h1, h3]; done) | (simp [kstB, h1, h2]; done) | (simp [kstB, h1]; done))))
        have e3 := hcar3.done (by assumption)
        have hfin : CarO 256 new (pre ++ [n]) o3 := by rw [e3, hst]; exact hcar.step h2 (by decide) (by decide) hlo hhi
        exact ⟨hfin, hfin.len h2⟩
  case zq6 =>
    clear FF NN
    intro out ovs oc _ u h tk hfacts hp FF NN
    obtain ⟨hcar, hol⟩ := hp
    dsimp only
    (k_steps; all_goals (repeat (first | (k_unfold; try dsimp only) | dsimp only)))
    (repeat (first | (k_unfold; try dsimp only) | dsimp only))
    (rename Fr s.heap _ _ _ => FF)
    (rename News s.heap _ _ _ => NN)
    refine fin_list hret FF NN (by k_memK) (by assumption) ?_
    rw [hcar.eq]
set_option maxHeartbeats 8000000 in
theorem carried_list (a : Addr) (avs : List Value) (ks : List Int) (t1 t2 : Tok) (old new : Int) (hk : IntsAre avs ks) (hb : ks.length ≤ 64) (hin : ∀ x ∈ ks, 0 ≤ x ∧ x < old) (ho : 2 ≤ old) (ho2 : old ≤ 256) (h2 : 2 ≤ new) (h3 : new ≤ 256) :
    Spec 99 1 8 [.ref a, .int old t1, .int new t2] [] (fun h => h.IsList a avs.toArray) (PList (digs new (val old ks)).reverse) := by
  intro prog w mean mg mb A env outer A₀ base h₀ L m s Q E B F X T hhd hA hf hke hd hu hpre hret
  obtain ⟨hdl, dp, fr, gd, un⟩ := A
  dsimp only at hhd hA hd hu hpre
  subst hhd hA
  refine wpAny_call ?_
  k_dflt (refine' enterP ?k1 ?k2 ?k3 ?k5 ?kA ?kF ?kK ?k6 ?k7 ?k8 ?k9 ?kB ?_ ?c2 ?c3 ?c4 ?c5; (case kA => exact rfl); (case kF => assumption); (case kK => assumption); (case k1 => k_asm); (case k2 => k_asm); (case k3 => k_asm);  (case k5 => k_asm); (case k6 => k_is); (case k7 => k_is); (case k8 => (try dsimp only); omega); (case k9 => first | exact BindsTo.of_eq rfl | exact binds_K (by k_in) rfl (by k_is) rfl rfl rfl | (refine' kp_binds ?kx ?ke; (case kx => k_in); (case ke => exact fun _ => rfl))); (case c5 => decide); (case kB => exact locs rfl); (case c2 => exact rfl); (case c3 => exact rfl); (case c4 => exact rfl); k_whole; intro L' h' F' N' B' X' T'; (try dsimp only); (try k_lift B'); (try k_fold))
  (k_with_none; (k_with "pyIter ref" => refine Stop.out ?_); (k_with "pyIter bytes" => refine Stop.out ?_); (k_with "exec While" => refine Stop.out ?_); (k_with "exec While Compare" => refine Stop.out ?_); (k_with "exec While BoolOp" => refine Stop.out ?_); (k_with "exec While Compare cons nil" => refine Stop.out ?_); (k_with "exec While Name" => refine Stop.out ?_); (k_with "InvEndN" => refine Stop.out ?_); (k_with "KswEnd" => refine Stop.out ?_))
  k_steps
  refine Stop.mk ?_
  rename Fr s.heap _ _ _ => FF
  rename News s.heap _ _ _ => NN
  refine loop1L (ι := Unit) (ex := []) (vs₀ := []) (xs₀ := []) (fun _ => []) () [Str.ofString "carry", Str.ofString "k"] (fun pre out _ => CarO old new pre out ∧ out.length ≤ 8 * pre.length) hpre hk rfl FF NN .nil (fun _ h => nomatch h) ⟨⟨by simp [val, digs_zero], by simp [val], by simp [val]⟩, by simp⟩ ?zq5 ?zq6
  case zq5 =>
    clear FF NN
    intro out ovs oc _ pre post n tn u h tk own hks hoff hfacts hp FF NN
    obtain ⟨hcar, hol⟩ := hp
    dsimp only [List.map_nil, List.nil_append] at hoff NN
    obtain ⟨hlo, hhi⟩ := hin n (by rw [hks]; exact List.mem_append_right _ (List.mem_cons_self ..))
    have hpl : pre.length < ks.length := by rw [hks, List.length_append, List.length_cons]; omega
    k_steps
    refine Stop.mk ?_
    rename Fr s.heap _ _ _ => FF
    rename News s.heap _ _ _ => NN
    rename IsRange _ _ _ _ _ _ _ _ => RR
    refine loop1R (ι := Int × Tok) (ex := own) (fun i => [(Str.ofString "carry", .int i.1 i.2)]) (n, tn) [] (fun pr o i => CarI old new out n pr.length i.1 o ∧ o.length = out.length) RR (range0_small (by omega)) (range0_size _) rfl FF NN hfacts (fun p hp => by rw [List.mem_singleton.mp hp]; rfl) ⟨carI_start hcar hlo hhi, rfl⟩ ?zr5 ?zr6
    case zr5 =>
      clear FF NN RR
      intro o2 ovs2 oc2 i2 pr k tk2 u2 h2' tkk own2 hkp hpn hoff2 hfacts2 hp2 FF NN
      obtain ⟨c2, ct2⟩ := i2
      obtain ⟨hcar2, hol2⟩ := hp2
      dsimp only at hcar2 hol2 FF NN
      rw [Int.zero_add] at hkp
      subst hkp
      k_steps
      (refine Stop.mk ?_; (rename Fr s.heap _ _ _ => FF); (rename News s.heap _ _ _ => NN); (try simp only [List.push_toArray] at NN); refine end1 (out := ?zo_15) (vs := ?zv_15) (n := ?zn_15) (?zi1, ?zi2) FF NN ?zE1_15 ?zE2_15 ?zE3_15 ?zE4_15 ?zE5_15 ?zE6_15; (case zE1_15 => (refine List.forall_mem_cons.mpr ⟨by k_memK, ?_⟩; intro p hp; kst_mem)); (case zE2_15 => (intro p hp; kst_mem)); (case zE3_15 => first | assumption | k_intsEnd); (case zE4_15 => kst_all); (case zE5_15 => (intro z h1 h2 h3; (try simp only [List.forall_mem_cons, List.not_mem_nil, false_implies, implies_true, and_true, ne_eq] at h2); (try simp only [List.contains_cons, List.contains_nil, Bool.or_false, Bool.or_eq_false_iff, beq_eq_false_iff_ne, ne_eq] at h3); first | rfl | (simp [kstB, h1, h2, h3]; done) | (simp [kstB, h1, h3]; done) | (simp [kstB, h1, h2]; done) | (simp [kstB, h1]; done))))
      exact ⟨by rw [List.length_append, List.length_singleton]; exact hcar2.step h2 (by omega), by rw [List.length_set]; exact hol2⟩
    case zr6 =>
      clear FF NN RR
      intro o2 ovs2 oc2 i2 u2 h2' tkk hfacts2 hp2 FF NN
      obtain ⟨c2, ct2⟩ := i2
      obtain ⟨hcar2, hol2⟩ := hp2
      dsimp only at hcar2 hol2 FF NN
      rw [rangeKs_length] at hcar2
      have hst := hcar2.done hol2.symm
      dsimp only
      k_steps
      refine Stop.mk ?_; (rename Fr s.heap _ _ _ => FF); (rename News s.heap _ _ _ => NN)
      refine while1 (ι := Int × Tok) (ex := own) (fun i => [(Str.ofString "carry", .int i.1 i.2)]) (c2, ct2) [] (fun o i => CarW old new o2 c2 i.1 o ∧ o.length ≤ 8 * 65) (fun _ i => i.1.toNat) FF NN hfacts2 (fun p hp => by rw [List.mem_singleton.mp hp]; rfl) ⟨carW_start hcar2.lo hcar2.hi, by omega⟩ ?zw5 (by passes_own)
      clear FF NN
      intro o3 ovs3 oc3 i3 u3 h3' tkk3 hfacts3 hp3 FF NN
      obtain ⟨c3, ct3⟩ := i3
      obtain ⟨hcar3, hol3⟩ := hp3
      dsimp only at hcar3 hol3 FF NN
      k_steps
      · (dsimp only [W1, KswPost]; (rename Fr s.heap _ _ _ => FF); (rename News s.heap _ _ _ => NN); (try simp only [List.push_toArray] at NN); refine ksw_end (σ := S1 _) ((?zo_17, ?zv_17, ?zn_17), ?zi3, ?zi4) FF NN ?zE1_17 ?zE3_17 ?zE4_17 ?zE5_17 ?zE6_17 ?zE7_17; (case zE1_17 => (dsimp only [Led1]; refine List.forall_mem_cons.mpr ⟨by k_memK, ?_⟩; intro p hp; kst_mem)); (case zE3_17 => first | assumption | k_intsEnd); (case zE4_17 => kst_all); (case zE5_17 => (intro z h2 h3; (try simp only [List.forall_mem_cons, List.not_mem_nil, false_implies, implies_true, and_true, ne_eq] at h2); (try simp only [List.contains_cons, List.contains_nil, Bool.or_false, Bool.or_eq_false_iff, beq_eq_false_iff_ne, ne_eq] at h3); first | rfl | (simp [kstB, h2, h3]; done) | (simp [kstB, h3]; done) | (simp [kstB, h2]; done) | (simp [kstB]; done))))
        · obtain ⟨st1, st2⟩ := hcar3.step h2 (by assumption)
          refine ⟨st1, ?_⟩
          have q1 := st1.len
          have q2 := digs_len h2 8 c2 (by have := hcar2.hi; omega)
          rw [List.length_append] at q1
          rw [List.length_append]
          rw [List.length_append] at q1
          omega
        · exact (hcar3.step h2 (by assumption)).2
      · (refine Stop.mk ?_; (rename Fr s.heap _ _ _ => FF); (rename News s.heap _ _ _ => NN); (try simp only [List.push_toArray] at NN); refine end1 (out := ?zo_18) (vs := ?zv_18) (n := ?zn_18) (()) FF NN ?zE1_18 ?zE2_18 ?zE3_18 ?zE4_18 ?zE5_18 ?zE6_18; (case zE1_18 => (refine List.forall_mem_cons.mpr ⟨by k_memK, ?_⟩; intro p hp; kst_mem)); (case zE2_18 => (intro p hp; kst_mem)); (case zE3_18 => first | assumption | k_intsEnd); (case zE4_18 => kst_all); (case zE5_18 => (intro z h1 h2 h3; (try simp only [List.forall_mem_cons, List.not_mem_nil, false_implies, implies_true, and_true, ne_eq] at h2); (try simp only [List.contains_cons, List.contains_nil, Bool.or_false, Bool.or_eq_false_iff, beq_eq_false_iff_ne, ne_eq] at h3); first | rfl | (simp [kstB, h1, h2, h3]; done) | (simp [kstB, h1, h3]; done) | (simp [kstB, h1, h2]; done) | (simp [kstB, h1]; done))))
        have e3 := hcar3.done (by assumption)
        have hfin : CarO old new (pre ++ [n]) o3 := by rw [e3, hst]; exact hcar.step h2 (by omega) ho2 hlo hhi
        exact ⟨hfin, hfin.len h2⟩
  case zq6 =>
    clear FF NN
    intro out ovs oc _ u h tk hfacts hp FF NN
    obtain ⟨hcar, hol⟩ := hp
    dsimp only
    (k_steps; all_goals (repeat (first | (k_unfold; try dsimp only) | dsimp only)))
    (repeat (first | (k_unfold; try dsimp only) | dsimp only))
    (rename Fr s.heap _ _ _ => FF)
    (rename News s.heap _ _ _ => NN)
    refine fin_list hret FF NN (by k_memK) (by assumption) ?_
    rw [hcar.eq]

end
/-! Pure3 -/
section
/- --pure -/
noncomputable def mixSt (salt modulus : Int) (l : List Int) : Int := l.foldl (fun st x => (st * 137 + x + 1) % modulus) salt
theorem mixSt_snoc (salt modulus : Int) (l : List Int) (x : Int) : mixSt salt modulus (l ++ [x]) = (mixSt salt modulus l * 137 + x + 1) % modulus := by simp [mixSt, List.foldl_append]
noncomputable def mixF (salt modulus shift : Int) (l : List Int) : List Int := [0, 1, 2, 3, 4, 5].map fun k => (mixSt salt modulus l * (2 * k + 1) + shift * k) % 256
theorem mixF_len (salt modulus shift : Int) (l : List Int) : (mixF salt modulus shift l).length = 6 := rfl
theorem mixF_in (salt modulus shift : Int) (l : List Int) : ∀ x ∈ mixF salt modulus shift l, 0 ≤ x ∧ x < 256 := by
  intro x hx
  obtain ⟨k, _, rfl⟩ := List.mem_map.mp hx
  omega
structure MixI (salt modulus : Int) (pre : List Int) (st : Int) : Prop where
  eq : st = mixSt salt modulus pre
theorem MixI.step {salt modulus : Int} {pre : List Int} {st n : Int} (h : MixI salt modulus pre st) (h0 : 0 ≤ st) (h1 : st < 65521) (hn : 0 ≤ n) (hm : 1 ≤ modulus) (hm2 : modulus ≤ 65521) :
    MixI salt modulus (pre ++ [n]) ((st * 137 + n + 1).fmod modulus) ∧ 0 ≤ (st * 137 + n + 1).fmod modulus ∧ (st * 137 + n + 1).fmod modulus < 65521 := by
  rw [Int.fmod_eq_emod_of_nonneg _ (by omega)]
  refine ⟨⟨by rw [mixSt_snoc, h.eq]⟩, Int.emod_nonneg _ (by omega), ?_⟩
  have := Int.emod_lt_of_pos (st * 137 + n + 1) (show 0 < modulus by omega)
  omega
noncomputable def textF (cs ks : List Int) : List Int := List.replicate (nz ks) (cs.getD 0 0) ++ ((digs cs.length (val 256 ks)).reverse.map fun k => cs.getD k.toNat 0)
theorem getD_mem {cs : List Int} {i : Nat} (h : i < cs.length) : cs.getD i 0 ∈ cs := by
  rw [List.getD_eq_getElem?_getD, List.getElem?_eq_getElem h]
  exact List.getElem_mem h
theorem digs_val_len {b : Int} (hb : 2 ≤ b) {ks : List Int} (h : ∀ x ∈ ks, 0 ≤ x ∧ x < 256) : (digs b (val 256 ks)).length ≤ 8 * ks.length := by
  refine digs_len hb _ _ ?_
  rw [← pow256]
  exact val_lt (by decide) ks h
theorem textF_mem {cs ks : List Int} (hc : 2 ≤ cs.length) : ∀ x ∈ textF cs ks, x ∈ cs := by
  intro x hx
  rcases List.mem_append.mp hx with hx | hx
  · rw [(List.mem_replicate.mp hx).2]
    exact getD_mem (by omega)
  · obtain ⟨k, hk, rfl⟩ := List.mem_map.mp hx
    have := digs_in _ _ (Nat.le_refl _) k (List.mem_reverse.mp hk)
    exact getD_mem (by omega)
theorem textF_len {cs ks : List Int} (hc : 2 ≤ cs.length) (h : ∀ x ∈ ks, 0 ≤ x ∧ x < 256) : (textF cs ks).length ≤ 9 * ks.length := by
  have h1 := digs_val_len (b := cs.length) (by omega) h
  have h2 := nz_le ks
  simp only [textF, List.length_append, List.length_replicate, List.length_map, List.length_reverse]
  omega
theorem pow_256 : ∀ n : Fin 17, (256 : Int) ^ n.val ≤ 2 ^ 256 := by decide +kernel
theorem val_big {l : List Int} (h : ∀ x ∈ l, 0 ≤ x ∧ x < 256) (hl : l.length ≤ 16) : val 256 l < 2 ^ 256 :=
  Int.lt_of_lt_of_le (val_lt (by decide) l h) (pow_256 ⟨l.length, by omega⟩)
theorem val_drop (old : Int) : ∀ ks : List Int, val old (ks.drop (nz ks)) = val old ks
  | [] => rfl
  | x :: r => by
    by_cases h : x = 0
    · simp only [nz, h, if_true, List.drop_succ_cons]
      rw [val_drop old r]
      simp [val]
    · simp [nz, h]

end
/-! Rules1 -/
section
/- --pure -/
section
variable {prog : Program} {w : World} {A : Around} {E : Value → Shared → Prop} {s : Shared} {h₀ : Heap} {L : Addr} {m : Str → Option Value} {news : List (Addr × Obj)} {Q : Value → Shared → Prop}
theorem ints_replicate (x : Int) (t : Tok) : ∀ n : Nat, IntsAre (List.replicate n [Value.int x t]).flatten (List.replicate n x)
  | 0 => .nil
  | n + 1 => by
    rw [List.replicate_succ, List.flatten_cons, List.replicate_succ]
    exact .cons _ _ (ints_replicate x t n)
theorem mul_one {l : Addr} {x : Int} {t u : Tok} {k : Nat} {n : Nat} (F : Fr h₀ L s.heap m) (N : News h₀ L s.heap news) (hm : (l, PySem.W.listOf #[Value.int x t] k) ∈ news) (hn : n ≤ 64)
    (h : ∀ D vs h', Fr h₀ L h' m → News h₀ L h' ((D, PySem.W.listOf vs.toArray 0) :: news) → (∀ p ∈ news, p.1 < D) → IntsAre vs (List.replicate n x) → vs.length = n → Q (.ref D) { s with heap := h' }) : wpAny (model prog w) A (binaryOp .Mult (.ref l) (.int (n : Int) u)) Q E s := by
  have e : (n : Int).toNat = n := by omega
  refine KMa.mul (vs := [Value.int x t]) F N ⟨_, (N _ hm).1, rfl, _, rfl⟩ (by omega) (by omega) (by rw [e]; simp; omega) rfl fun D h' F' N' hl => ?_
  rw [e] at N'
  exact h D _ h' F' N' hl (ints_replicate x t n) (by simp)
theorem cut2 {τ : Type} {M : Model} {E : Value → Shared → Prop} {st : Stmt} {env : Env} {Q : Flow → Shared → Prop} {m₀ : Str → Option Value} (F : Fr h₀ L s.heap m₀) (N : News h₀ L s.heap news) (mm : τ → (Str → Option Value) → (Str → Option Value))
    (h1 : wpAny M A (exec st env) (fun f s' => f = .next ∧ ∃ h' tk' tok, s' = { s with heap := h', toks := tk' } ∧ Fr h₀ L h' (mm tok m₀) ∧ News h₀ L h' news) E s)
    (h2 : ∀ h' tk' tok, Fr h₀ L h' (mm tok m₀) → News h₀ L h' news → Q .next { s with heap := h', toks := tk' }) : wpAny M A (exec st env) Q E s :=
  wpAny_mono h1 (fun f s' ⟨e, h', tk', tok, es, F', N'⟩ => by subst e; subst es; exact h2 h' tk' tok F' N') fun _ _ x => x
theorem fr_same {h₀ h : Heap} {L : Addr} {m m' : Str → Option Value} (F : Fr h₀ L h m) (e : ∀ y, m y = m' y) : Fr h₀ L h m' := by
  have : m = m' := funext e
  exact this ▸ F
end

end
/-! F3 -/
section
local macro_rules | `(tactic| walk_at $s:str) => `(tactic| k_extra $s)
set_option maxHeartbeats 8000000 in
theorem mixed_spec (b : Array UInt8) (ks : List Int) (t t1 t2 t3 : Tok) (salt modulus shift : Int) (hk : KBw.bInts b = ks) (hb : ks.length ≤ 1000) (h1 : 1 ≤ modulus) (h2 : modulus ≤ 65521) (h3 : 0 ≤ salt) (h4 : salt < 65521) (h5 : shift = 0 ∨ shift = 41) :
    Spec 111 1 8 [.bytes b t, .int salt t1, .int modulus t2, .int shift t3] [] (fun _ => True) (PBytes (mixF salt modulus shift ks)) := by
  intro prog w mean mg mb A env outer A₀ base h₀ L m s Q E B F X T hhd hA hf hke hd hu hpre hret
  obtain ⟨hdl, dp, fr, gd, un⟩ := A
  dsimp only at hhd hA hd hu hpre
  subst hhd hA
  refine wpAny_call ?_
  k_dflt (refine' enterPC ?k1 ?k2 ?k3 ?k5 ?kA ?kF ?kK ?k6 ?k7 ?k8 ?k9 ?kB ?kD ?_ ?c2 ?c3 ?c4; (case kA => exact rfl); (case kF => assumption); (case kK => assumption); (case k1 => k_asm); (case k2 => k_asm); (case k3 => k_asm);  (case k5 => k_asm); (case k6 => k_is); (case k7 => k_is); (case k8 => (try dsimp only); omega); (case k9 => first | exact BindsTo.of_eq rfl | exact binds_K (by k_in) rfl (by k_is) rfl rfl rfl | (refine' kp_binds ?kx ?ke; (case kx => k_in); (case ke => exact fun _ => rfl))); (case kB => exact rfl); (case kD => decide +kernel); (case c2 => exact rfl); (case c3 => exact rfl); (case c4 => exact rfl); k_whole; intro L' h' tk' cells' F' N' Y' B' X' T'; k_cells Y'; (try simp only [List.cons_append, List.nil_append] at N'); (try dsimp only); (try k_lift B'); (try k_fold))
  (k_with_none; (k_with "pyIter ref" => refine Stop.out ?_); (k_with "pyIter bytes" => refine Stop.out ?_); (k_with "exec While" => refine Stop.out ?_); (k_with "exec While Compare" => refine Stop.out ?_); (k_with "exec While BoolOp" => refine Stop.out ?_); (k_with "exec While Compare cons nil" => refine Stop.out ?_); (k_with "exec While Name" => refine Stop.out ?_); (k_with "InvEndN" => refine Stop.out ?_); (k_with "KswEnd" => refine Stop.out ?_))
  k_steps
  refine Stop.mk ?_; (rename Fr s.heap _ _ _ => FF); (rename News s.heap _ _ _ => NN)
  refine loopBc (ι := Int × Tok) (fun i => .int i.1 i.2) (fun _ => []) (salt, t1) [] (fun pre i => MixI salt modulus pre i.1 ∧ 0 ≤ i.1 ∧ i.1 < 65521) hk rfl FF NN (by assumption) (fun _ h => nomatch h) ⟨⟨rfl⟩, h3, h4⟩ ?zq5 ?zq6
  case zq5 =>
    clear FF NN
    intro o c pre post n tn u h tk own hks hlo hhi hoff hcell hp FF NN
    obtain ⟨st, stt⟩ := c
    obtain ⟨hst, hs0, hs1⟩ := hp
    dsimp only [List.map_cons, List.map_nil, List.cons_append, List.nil_append] at hst hs0 hs1 FF NN hoff hcell
    k_steps
    (refine Stop.mk ?_; (rename Fr s.heap _ _ _ => FF); (rename News s.heap _ _ _ => NN); refine kst_end (σ := Obj × _) (?zo_6, ?zi1, ?zi2) FF NN ?zE1_6 ?zE2_6 rfl ?zE3_6 ?zE4_6 ?zE5_6 ?zE6_6; (case zE1_6 => (dsimp only; refine List.forall_mem_cons.mpr ⟨by k_memK, ?_⟩; intro p hp; kst_mem)); (case zE2_6 => (intro p hp; kst_mem)); (case zE3_6 => first | assumption | trivial); (case zE4_6 => kst_all); (case zE5_6 => (intro z h1 h2 h3; (try simp only [List.forall_mem_cons, List.not_mem_nil, false_implies, implies_true, and_true, ne_eq] at h2); (try simp only [List.contains_cons, List.contains_nil, Bool.or_false, Bool.or_eq_false_iff, beq_eq_false_iff_ne, ne_eq] at h3); first | rfl | (simp [kstB, h1, h2, h3]; done) | (simp [kstB, h1, h3]; done) | (simp [kstB, h1, h2]; done) | (simp [kstB, h1]; done))))
    exact hst.step hs0 hs1 hlo h1 h2
  case zq6 =>
    clear FF NN
    intro o c u h tk hcell hp FF NN
    obtain ⟨st, stt⟩ := c
    obtain ⟨hst, hs0, hs1⟩ := hp
    dsimp only at hst hs0 hs1 FF NN hcell ⊢
    (k_steps; all_goals (repeat (first | (k_unfold; try dsimp only) | dsimp only)))
    refine fin_bytes hret (Fr.keep (by assumption)) ?_
    rw [KBa.ints_make (by assumption), show rangeKs 0 (6 - 0 : Int).toNat = [0, 1, 2, 3, 4, 5] from by decide]
    unfold mixF
    rw [← hst.eq]
    exact List.map_congr_left fun k _ => Int.fmod_eq_emod_of_nonneg _ (by decide)
set_option maxHeartbeats 8000000 in
theorem text_spec (b c : Array UInt8) (ks cs : List Int) (t t1 : Tok) (hk : KBw.bInts b = ks) (hc : KBw.bInts c = cs) (hb : ks.length ≤ 32) (hb2 : cs.length ≤ 60) (hb3 : 2 ≤ cs.length) :
    Spec 116 3 24 [.bytes b t, .bytes c t1] [] (fun _ => True) (PBytes (textF cs ks)) := by
  intro prog w mean mg mb A env outer A₀ base h₀ L m s Q E B F X T hhd hA hf hke hd hu hpre hret
  obtain ⟨hdl, dp, fr, gd, un⟩ := A
  dsimp only at hhd hA hd hu hpre
  subst hhd hA
  refine wpAny_call ?_
  k_dflt (refine' enterPC ?k1 ?k2 ?k3 ?k5 ?kA ?kF ?kK ?k6 ?k7 ?k8 ?k9 ?kB ?kD ?_ ?c2 ?c3 ?c4; (case kA => exact rfl); (case kF => assumption); (case kK => assumption); (case k1 => k_asm); (case k2 => k_asm); (case k3 => k_asm);  (case k5 => k_asm); (case k6 => k_is); (case k7 => k_is); (case k8 => (try dsimp only); omega); (case k9 => first | exact BindsTo.of_eq rfl | exact binds_K (by k_in) rfl (by k_is) rfl rfl rfl | (refine' kp_binds ?kx ?ke; (case kx => k_in); (case ke => exact fun _ => rfl))); (case kB => exact rfl); (case kD => decide +kernel); (case c2 => exact rfl); (case c3 => exact rfl); (case c4 => exact rfl); k_whole; intro L' h' tk' cells' F' N' Y' B' X' T'; k_cells Y'; (try simp only [List.cons_append, List.nil_append] at N'); (try dsimp only); (try k_lift B'); (try k_fold))
  (k_with_none; (k_with "pyIter ref" => refine Stop.out ?_); (k_with "pyIter bytes" => refine Stop.out ?_); (k_with "exec While" => refine Stop.out ?_); (k_with "exec While Compare" => refine Stop.out ?_); (k_with "exec While BoolOp" => refine Stop.out ?_); (k_with "exec While Compare cons nil" => refine Stop.out ?_); (k_with "exec While Name" => refine Stop.out ?_); (k_with "InvEndN" => refine Stop.out ?_); (k_with "KswEnd" => refine Stop.out ?_))
  k_with "call ref" => first
    | (refine use_list (carried_bytes _ _ _ _ _ _ hk (by omega) (by omega) (by omega)) (by k_asm) (by k_asm) (by k_asm) (by k_asm) (by k_asm) rfl rfl rfl rfl (by ktr_room) (by ktr_units) (by first | trivial | assumption | is_list) ?_; intro lU cU vsU hU tkU neU iU FU NU)
    | (refine use_int (noughts_spec _ _ _ hk (by omega)) (by k_asm) (by k_asm) (by k_asm) (by k_asm) (by k_asm) rfl rfl rfl rfl (by ktr_room) (by ktr_units) (by first | trivial | assumption | is_list) ?_; intro tU hU tkU FU NU)
  k_with "binaryOp Mult ref int" => (refine mul_one (by k_asm) (by k_asm) (by k_memK) (by omega) ?_; intro DM vsM hM FM NM lM iM lenM; (try k_lt lM))
  k_with "eval ListComp" => (k_dflt (refine LCg.ListComp_U (F₀ := by k_asm) (by with_unfolding_all rfl) (by decide) (by rfl) (by decide) (by rfl) ?_))
  k_with "CompSrc" => (k_dflt (refine LCg.CompSrc.ledger (by rfl) (by k_asm) (by k_asm) (by k_mem) (by rw [List.size_toArray, PySem.sizeLine_eq]; exact Nat.le_trans (hdl _ (by assumption)) (by decide)) ?_; intro g'; (refine' kcf_list (fun k => cs.getD k.toNat 0) (by assumption) (fun kC tC IC oIC CC oCC DC mC ysC hC tkC EC hkC hCC hxC FC NC offC neC mkC => ?_) ?_); (all_goals (try (simp only [LCg.Off3, and_true] at offC))); kcf_last))
  k_with "subscriptTail" => (refine KBw.item_K hc (by omega) (hdg _ (by assumption)).1 (hdg _ (by assumption)).2 ?_; intro _ _ _ _)
  k_with "call type:bytes" => (k_dflt (refine KBa.make_K (by k_asm) (by k_asm) rfl (by kba_isList) (by assumption) hinT hlT ?_); intro _ _ _ _ _ _)
  have hnz := nz_le ks
  have hkin : ∀ x ∈ ks, 0 ≤ x ∧ x < 256 := fun x hx => KBw.ints_in (hk ▸ hx)
  have hlen : (digs cs.length (val 256 ks)).length ≤ 256 := Nat.le_trans (digs_val_len (by omega) hkin) (by omega)
  have hdl : ∀ vs, IntsAre vs (digs cs.length (val 256 ks)).reverse → vs.length ≤ 256 := fun vs h => by rw [h.length, List.length_reverse]; exact hlen
  have hdg : ∀ k ∈ (digs cs.length (val 256 ks)).reverse, 0 ≤ k ∧ k < (cs.length : Int) := fun k h => digs_in _ _ (Nat.le_refl _) k (List.mem_reverse.mp h)
  have hlr : (digs cs.length (val 256 ks)).reverse.length ≤ 256 := by rw [List.length_reverse]; exact hlen
  have hinT : KBa.In (textF cs ks) := fun x hx => KBw.ints_in (hc ▸ textF_mem hb3 x hx)
  have hlT : (textF cs ks).length ≤ 16777216 := Nat.le_trans (textF_len hb3 hkin) (by omega)
  (k_steps; all_goals (repeat (first | (k_unfold; try dsimp only) | dsimp only)))
  refine fin_bytes hret (Fr.keep (by assumption)) ?_
  exact KBa.ints_make hinT

end
/-! Pure4 -/
section
/- --pure -/
noncomputable def bitcoinL : List Int := [49, 50, 51, 52, 53, 54, 55, 56, 57, 65, 66, 67, 68, 69, 70, 71, 72, 74, 75, 76, 77, 78, 80, 81, 82, 83, 84, 85, 86, 87, 88, 89, 90, 97, 98, 99, 100, 101, 102, 103, 104, 105, 106, 107, 109, 110, 111, 112, 113, 114, 115, 116, 117, 118, 119, 120, 121, 122]
noncomputable def rippleL : List Int := [114, 112, 115, 104, 110, 97, 102, 51, 57, 119, 66, 85, 68, 78, 69, 71, 72, 74, 75, 76, 77, 52, 80, 81, 82, 83, 84, 55, 86, 87, 88, 89, 90, 50, 98, 99, 100, 101, 67, 103, 54, 53, 106, 107, 109, 56, 111, 70, 113, 105, 49, 116, 117, 118, 65, 120, 121, 122]
noncomputable def signs2 (a b c : Int) : List Int := List.map (fun k' => if k' < 94 then 33 + k' else 67 + k') (List.map (fun k' => (a.fmod 181 + (1 + b.fmod 180) * k').fmod 181) (rangeKs 0 (24 + c.fmod 36 - 0).toNat))
noncomputable def signs3 (a b c : Int) : List Int := List.map (fun k' => 38 + (a.fmod 89 + (1 + b.fmod 88) * k').fmod 89) (rangeKs 0 (24 + c.fmod 36 - 0).toNat)
noncomputable def signsF (k a b c : Int) : List Int := if k = 0 then bitcoinL else if k = 1 then rippleL else if k = 2 then signs2 a b c else signs3 a b c
/-- what is asked of an alphabet -/
structure SignsOk (cs : List Int) : Prop where
  lo : 24 ≤ cs.length
  hi : cs.length ≤ 59
  nodup : cs.Nodup
  mem : ∀ x ∈ cs, 33 ≤ x ∧ x < 256
theorem fm (x : Int) {n : Int} (h : 0 < n) : x.fmod n = x % n := Int.fmod_eq_emod_of_nonneg _ (Int.le_of_lt h)
theorem coprimeP {p : Nat} (hp : ∀ s < p, s ≠ 0 → Nat.gcd p s = 1) (h60 : 60 ≤ p) : ∀ s < p, ∀ d < 60, s ≠ 0 → d ≠ 0 → (s * d) % p ≠ 0 := by
  intro s hs d hd s0 d0 e
  have h1 : p ∣ d := Nat.Coprime.dvd_of_dvd_mul_left (hp s hs s0) (Nat.dvd_of_mod_eq_zero e)
  have h2 := Nat.le_of_dvd (by omega) h1
  omega
theorem coprime181 : ∀ s < 181, ∀ d < 60, s ≠ 0 → d ≠ 0 → (s * d) % 181 ≠ 0 := coprimeP (by decide +kernel) (by decide)
theorem coprime89 : ∀ s < 89, ∀ d < 60, s ≠ 0 → d ≠ 0 → (s * d) % 89 ≠ 0 := coprimeP (by decide +kernel) (by decide)
theorem walk_inj {p : Nat} (hp : 0 < p) (hc : ∀ s < p, ∀ d < 60, s ≠ 0 → d ≠ 0 → (s * d) % p ≠ 0) {f s : Int} (hs : 1 ≤ s) (hs2 : s < p) {i j : Nat} (hij : i < j) (hj : j < 60) : (f + s * (i : Int)) % p ≠ (f + s * (j : Int)) % p := by
  intro e
  have e1 : ((f + s * (j : Int)) - (f + s * (i : Int))) % p = 0 := by
    rw [Int.sub_emod, e, Int.sub_self, Int.zero_emod]
  have e2 : (f + s * (j : Int)) - (f + s * (i : Int)) = ((s.toNat * (j - i) : Nat) : Int) := by
    have h1 : (s.toNat : Int) = s := Int.toNat_of_nonneg (by omega)
    have h2 : ((j - i : Nat) : Int) = (j : Int) - i := by omega
    rw [Int.natCast_mul, h1, h2, Int.mul_sub]
    omega
  rw [e2] at e1
  have e3 : (s.toNat * (j - i)) % p = 0 := by omega
  exact hc s.toNat (by omega) (j - i) (by omega) (by omega) (by omega) e3
theorem range_nodup {g : Int → Int} {n : Nat} (h : ∀ i j : Nat, i < j → j < n → g i ≠ g j) : ((rangeKs 0 n).map g).Nodup := by
  unfold rangeKs
  rw [List.map_map, List.Nodup, List.pairwise_map]
  refine List.Pairwise.imp_of_mem ?_ List.pairwise_lt_range
  intro i j _ hj hij
  have := h i j hij (List.mem_range.mp hj)
  simpa using this
theorem size_range (c : Int) : (24 + c.fmod 36 - 0).toNat < 60 ∧ 24 ≤ (24 + c.fmod 36 - 0).toNat := by
  rw [fm _ (by decide)]
  omega
theorem signs3_ok (a b c : Int) : SignsOk (signs3 a b c) := by
  obtain ⟨h1, h2⟩ := size_range c
  refine ⟨by simp [signs3, rangeKs_length]; omega, by simp [signs3, rangeKs_length]; omega, ?_, ?_⟩
  · refine range_nodup fun i j hij hj => ?_
    intro e
    have e' : (a.fmod 89 + (1 + b.fmod 88) * (i : Int)) % (89 : Nat) = (a.fmod 89 + (1 + b.fmod 88) * (j : Int)) % (89 : Nat) := by
      rw [fm (n := 89) _ (by decide), fm (n := 89) (a.fmod 89 + _) (by decide)] at e
      exact Int.add_left_cancel e
    refine walk_inj (p := 89) (by decide) coprime89 (f := a.fmod 89) (s := 1 + b.fmod 88) ?_ ?_ hij (by omega) e'
    · rw [fm _ (by decide)]; omega
    · rw [fm _ (by decide)]; omega
  · intro x hx
    obtain ⟨k, _, rfl⟩ := List.mem_map.mp hx
    have e : (a.fmod 89 + (1 + b.fmod 88) * k).fmod 89 = (a.fmod 89 + (1 + b.fmod 88) * k) % 89 := fm _ (by decide)
    rw [e]
    omega
theorem signs2_ok (a b c : Int) : SignsOk (signs2 a b c) := by
  obtain ⟨h1, h2⟩ := size_range c
  refine ⟨by simp [signs2, rangeKs_length]; omega, by simp [signs2, rangeKs_length]; omega, ?_, ?_⟩
  · unfold signs2
    rw [List.map_map]
    refine range_nodup fun i j hij hj => ?_
    intro e
    have e1 : (a.fmod 181 + (1 + b.fmod 180) * (i : Int)).fmod 181 = (a.fmod 181 + (1 + b.fmod 180) * (i : Int)) % 181 := fm _ (by decide)
    have e2 : (a.fmod 181 + (1 + b.fmod 180) * (j : Int)).fmod 181 = (a.fmod 181 + (1 + b.fmod 180) * (j : Int)) % 181 := fm _ (by decide)
    simp only [Function.comp] at e
    rw [e1, e2] at e
    have e' : (a.fmod 181 + (1 + b.fmod 180) * (i : Int)) % (181 : Nat) = (a.fmod 181 + (1 + b.fmod 180) * (j : Int)) % (181 : Nat) := by
      split at e <;> split at e <;> omega
    refine walk_inj (p := 181) (by decide) coprime181 (f := a.fmod 181) (s := 1 + b.fmod 180) ?_ ?_ hij (by omega) e'
    · rw [fm _ (by decide)]; omega
    · rw [fm _ (by decide)]; omega
  · intro x hx
    obtain ⟨y, hy, rfl⟩ := List.mem_map.mp hx
    obtain ⟨k, _, rfl⟩ := List.mem_map.mp hy
    have e : (a.fmod 181 + (1 + b.fmod 180) * k).fmod 181 = (a.fmod 181 + (1 + b.fmod 180) * k) % 181 := fm _ (by decide)
    rw [e]
    split <;> omega
theorem bitcoin_ok : SignsOk bitcoinL := ⟨by decide, by decide, by decide +kernel, by decide +kernel⟩
theorem ripple_ok : SignsOk rippleL := ⟨by decide, by decide, by decide +kernel, by decide +kernel⟩
theorem signsF_ok (k a b c : Int) : SignsOk (signsF k a b c) := by
  unfold signsF
  split
  · exact bitcoin_ok
  · split
    · exact ripple_ok
    · split
      · exact signs2_ok a b c
      · exact signs3_ok a b c
theorem SignsOk.inB {cs : List Int} (h : SignsOk cs) : KBa.In cs := fun x hx => by have := h.mem x hx; omega

end
/-! F4 -/
section
local macro_rules | `(tactic| walk_at $s:str) => `(tactic| k_extra $s)
set_option maxHeartbeats 8000000 in
theorem signs_spec (k a b c : Int) (t t1 t2 t3 : Tok) :
    Spec 92 1 8 [.int k t, .int a t1, .int b t2, .int c t3] [] (fun _ => True) (PBytes (signsF k a b c)) := by
  intro prog w mean mg mb A env outer A₀ base h₀ L m s Q E B F X T hhd hA hf hke hd hu hpre hret
  obtain ⟨hdl, dp, fr, gd, un⟩ := A
  dsimp only at hhd hA hd hu hpre
  subst hhd hA
  refine wpAny_call ?_
  k_dflt (refine' enterPC ?k1 ?k2 ?k3 ?k5 ?kA ?kF ?kK ?k6 ?k7 ?k8 ?k9 ?kB ?kD ?_ ?c2 ?c3 ?c4; (case kA => exact rfl); (case kF => assumption); (case kK => assumption); (case k1 => k_asm); (case k2 => k_asm); (case k3 => k_asm);  (case k5 => k_asm); (case k6 => k_is); (case k7 => k_is); (case k8 => (try dsimp only); omega); (case k9 => first | exact BindsTo.of_eq rfl | exact binds_K (by k_in) rfl (by k_is) rfl rfl rfl | (refine' kp_binds ?kx ?ke; (case kx => k_in); (case ke => exact fun _ => rfl))); (case kB => exact rfl); (case kD => decide +kernel); (case c2 => exact rfl); (case c3 => exact rfl); (case c4 => exact rfl); k_whole; intro L' h' tk' cells' F' N' Y' B' X' T'; k_cells Y'; (try simp only [List.cons_append, List.nil_append] at N'); (try dsimp only); (try k_lift B'); (try k_fold))
  (k_with_none; (k_with "pyIter ref" => refine Stop.out ?_); (k_with "pyIter bytes" => refine Stop.out ?_); (k_with "exec While" => refine Stop.out ?_); (k_with "exec While Compare" => refine Stop.out ?_); (k_with "exec While BoolOp" => refine Stop.out ?_); (k_with "exec While Compare cons nil" => refine Stop.out ?_); (k_with "exec While Name" => refine Stop.out ?_); (k_with "InvEndN" => refine Stop.out ?_); (k_with "KswEnd" => refine Stop.out ?_))
  have hin2 := (signs2_ok a b c).inB
  have hl2 : (signs2 a b c).length ≤ 16777216 := Nat.le_trans (signs2_ok a b c).hi (by decide)
  (k_steps; all_goals (repeat (first | (k_unfold; try dsimp only) | dsimp only)))
  · refine fin_bytes hret (Fr.keep (by assumption)) ?_
    unfold signsF
    rw [if_pos (by assumption)]
    decide +kernel
  · refine fin_bytes hret (Fr.keep (by assumption)) ?_
    unfold signsF
    rw [if_neg (by assumption), if_pos (by assumption)]
    decide +kernel
  · refine fin_bytes hret (Fr.keep (by assumption)) ?_
    unfold signsF
    rw [if_neg (by assumption), if_neg (by assumption), if_pos (by assumption)]
    exact KBa.ints_make (by assumption)
  · refine fin_bytes hret (Fr.keep (by assumption)) ?_
    unfold signsF
    rw [if_neg (by assumption), if_neg (by assumption), if_neg (by assumption)]
    exact KBa.ints_make (by assumption)

end
/-! Pure5 -/
section
/- --pure -/
noncomputable def g0 : List Int := [48, 79, 111]
noncomputable def g1 : List Int := [73, 108, 49]
@[irreducible] noncomputable def cnt (cs g : List Int) : Nat := (g.filter (fun y => decide (y ∈ cs))).length
@[irreducible] noncomputable def exch (cs : List Int) (o : Int) (g : List Int) (x here : Int) : Int := if x ∈ g ∧ cnt cs g = 1 then g.getD (o.fmod 3).toNat 0 else here
noncomputable def copy1 (cs : List Int) (o x : Int) : Int := exch cs o g1 x (exch cs o g0 x x)
noncomputable def copyStep (cs : List Int) (o : Int) (st : Bool × List Int) (x : Int) : Bool × List Int :=
  (st.1 && decide (x = cs.getD 0 0), st.2 ++ [if (st.1 && decide (x = cs.getD 0 0)) = true then x else copy1 cs o x])
noncomputable def copied (cs : List Int) (o : Int) (l : List Int) : Bool × List Int := l.foldl (copyStep cs o) (true, [])
theorem copied_snoc (cs : List Int) (o : Int) (l : List Int) (x : Int) : copied cs o (l ++ [x]) = copyStep cs o (copied cs o l) x := by simp [copied, List.foldl_append]
structure CopI (cs : List Int) (o : Int) (pre : List Int) (f : Bool) (out : List Int) : Prop where
  eq : copied cs o pre = (f, out)
theorem cnt_of {cs g : List Int} {ys : List Value} (h : IntsAre ys ((g.filter (fun k => decide (k ∈ cs))).map fun k => k)) : ys.length = cnt cs g := by
  rw [h.length, List.length_map, cnt]
theorem cnt_le (cs g : List Int) : cnt cs g ≤ g.length := by
  rw [cnt]
  exact List.length_filter_le ..
theorem any_eq {g : List Int} {x : Int} : (g.any fun y => y == x) = decide (x ∈ g) := by
  induction g with
  | nil => rfl
  | cons a r ih =>
    rw [List.any_cons, ih]
    by_cases h : a = x
    · subst h
      simp
    · have h' : ¬ x = a := fun e => h e.symm
      simp [h, h']
theorem exch_yes {cs g : List Int} {o x here : Int} (h : (g.any fun y => y == x) = true) (h1 : ((cnt cs g : Nat) : Int) = 1) : exch cs o g x here = g.getD (o.fmod 3).toNat 0 := by
  unfold exch
  rw [any_eq] at h
  rw [if_pos ⟨of_decide_eq_true h, by omega⟩]
theorem exch_no {cs g : List Int} {o x here : Int} (h : (g.any fun y => y == x) = false) : exch cs o g x here = here := by
  unfold exch
  rw [any_eq] at h
  rw [if_neg fun q => of_decide_eq_false h q.1]
theorem exch_not {cs g : List Int} {o x here : Int} (h1 : ¬ ((cnt cs g : Nat) : Int) = 1) : exch cs o g x here = here := by
  unfold exch
  rw [if_neg fun q => h1 (by omega)]
theorem CopI.step {cs : List Int} {o : Int} {pre : List Int} {f f' : Bool} {out : List Int} {x y : Int} (h : CopI cs o pre f out) (hf : (f && decide (x = cs.getD 0 0)) = f') (hy : (if f' = true then x else copy1 cs o x) = y) : CopI cs o (pre ++ [x]) f' (out ++ [y]) := by
  refine ⟨?_⟩
  rw [copied_snoc, h.eq]
  unfold copyStep
  dsimp only
  rw [hf, hy]
theorem getD_in {g : List Int} (hg : ∀ k ∈ g, 0 ≤ k ∧ k < 256) (i : Nat) : 0 ≤ g.getD i 0 ∧ g.getD i 0 < 256 := by
  by_cases h : i < g.length
  · exact hg _ (getD_mem h)
  · rw [List.getD_eq_getElem?_getD, List.getElem?_eq_none (Nat.not_lt.mp h)]
    decide
theorem exch_in {cs g : List Int} {o x here : Int} (hg : ∀ k ∈ g, 0 ≤ k ∧ k < 256) (h : 0 ≤ here ∧ here < 256) : 0 ≤ exch cs o g x here ∧ exch cs o g x here < 256 := by
  unfold exch
  split
  · exact getD_in hg _
  · exact h
theorem copy1_in {cs : List Int} {o x : Int} (h : 0 ≤ x ∧ x < 256) : 0 ≤ copy1 cs o x ∧ copy1 cs o x < 256 := exch_in (by decide) (exch_in (by decide) h)
theorem copied_in (cs : List Int) (o : Int) {l : List Int} (hl : KBa.In l) : KBa.In (copied cs o l).2 := by
  have key : ∀ (l : List Int) (st : Bool × List Int), KBa.In l → KBa.In st.2 → KBa.In (l.foldl (copyStep cs o) st).2 := by
    intro l
    induction l with
    | nil => intro st _ h; exact h
    | cons x r ih =>
      intro st hl h
      refine ih _ (fun y hy => hl y (List.mem_cons_of_mem _ hy)) ?_
      intro y hy
      have hx := hl x (List.mem_cons_self ..)
      rcases List.mem_append.mp hy with hy | hy
      · exact h y hy
      · rw [List.mem_singleton.mp hy]
        split
        · exact hx
        · exact copy1_in hx
  exact key l _ hl (fun _ h => nomatch h)
theorem copied_len (cs : List Int) (o : Int) (l : List Int) : (copied cs o l).2.length = l.length := by
  have key : ∀ (l : List Int) (st : Bool × List Int), (l.foldl (copyStep cs o) st).2.length = st.2.length + l.length := by
    intro l
    induction l with
    | nil => intro st; rfl
    | cons x r ih =>
      intro st
      rw [List.foldl_cons, ih]
      simp only [copyStep, List.length_append, List.length_cons, List.length_nil]
      omega
  have := key l (true, [])
  simpa [copied] using this
theorem slice1 {cs : List Int} {k : Int} (h0 : 0 ≤ k) (h1 : k < (cs.length : Int)) : (cs.drop (clipAt cs.length k)).take (clipAt cs.length (k + 1) - clipAt cs.length k) = [cs.getD k.toNat 0] := by
  obtain ⟨n, rfl⟩ := Int.eq_ofNat_of_zero_le h0
  have hn : n < cs.length := by omega
  have e1 : clipAt cs.length (n : Int) = n := by rw [clipAt_nat]; omega
  have e2 : clipAt cs.length ((n : Int) + 1) = n + 1 := by
    have := clipAt_nat cs.length (n + 1)
    rw [show ((n : Int) + 1) = ((n + 1 : Nat) : Int) from by omega, this]
    omega
  have e3 : (n : Int).toNat = n := rfl
  rw [e1, e2, e3, List.drop_eq_getElem_cons hn, List.getD_eq_getElem?_getD, List.getElem?_eq_getElem hn, show n + 1 - n = 1 from by omega]
  rfl
structure EncI (cs : List Int) (i₀ i : Int) (out : List Int) : Prop where
  lo : 0 ≤ i
  hi : i ≤ i₀
  eq : ((digs cs.length i).reverse.map fun k => cs.getD k.toNat 0) ++ out = (digs cs.length i₀).reverse.map fun k => cs.getD k.toNat 0
theorem EncI.step {cs : List Int} {i₀ i : Int} {out : List Int} (h : EncI cs i₀ i out) (hc : 2 ≤ cs.length) (hi : i ≠ 0) : EncI cs i₀ (i.fdiv cs.length) ([cs.getD (i.fmod cs.length).toNat 0] ++ out) ∧ (i.fdiv cs.length).toNat < i.toNat := by
  have h0 := h.lo
  have h1 := h.hi
  rw [Int.fdiv_eq_ediv_of_nonneg _ (by omega), Int.fmod_eq_emod_of_nonneg _ (by omega)]
  have h2 : 0 ≤ i / (cs.length : Int) := Int.ediv_nonneg h0 (by omega)
  have h3 : i / (cs.length : Int) < i := Int.ediv_lt_self_of_pos_of_ne_one (by omega) (by omega)
  refine ⟨⟨h2, by omega, ?_⟩, by omega⟩
  have e := h.eq
  rw [digs_pos (show 0 < i by omega) (by omega), List.reverse_cons, List.map_append, List.append_assoc] at e
  exact e
theorem EncI.len {cs : List Int} {i₀ i : Int} {out : List Int} (h : EncI cs i₀ i out) (hc : 2 ≤ cs.length) (hi : i₀ < 2 ^ 256) : out.length ≤ 256 := by
  have e := congrArg List.length h.eq
  have hl := digs_len (b := cs.length) (by omega) 256 i₀ hi
  simp only [List.length_append, List.length_map, List.length_reverse] at e
  omega
theorem EncI.done {cs : List Int} {i₀ i : Int} {out : List Int} (h : EncI cs i₀ i out) (hi : i = 0) : out = (digs cs.length i₀).reverse.map fun k => cs.getD k.toNat 0 := by
  have e := h.eq
  rw [hi, digs_zero (by decide)] at e
  exact e

end
/-! Rules2 -/
section
/- --pure -/
section
open PyProof.Rows.LCg PyProof.Rows.LCt
variable {prog : Program} {w : World} {A : Around} {E : Value → Shared → Prop} {s : Shared} {h₀ : Heap} {L : Addr} {m : Str → Option Value} {env : Env} {news : List (Addr × Obj)}
  {ct elt iter : Expr} {x : Str} {px : Pos} {scope : Scope} {cl : List (Str × Addr)} {pos : Pos}

/-- what a test or an element finds: the name x, the frame, the ledger -/
noncomputable def InTurn (h₀ : Heap) (L : Addr) (m : Str → Option Value) (news : List (Addr × Obj)) (x : Str) (C : Addr) (k : Int) (h : Heap) : Prop :=
  ∃ t I oI oC D ys m₂, NsObj oC m₂ ∧ m₂ x = some (.int k t) ∧ Fr h₀ L h m ∧ News h₀ L h ((I, oI) :: (C, oC) :: (D, lst ys) :: news)
/-- a tree that turns no heap -/
abbrev Quiet {α : Type} (prog : Program) (w : World) (A : Around) (t : Sem α) (s : Shared) (h : Heap) (P : α → Prop) : Prop :=
  ∀ tk (E' : Value → Shared → Prop), wpAny (model prog w) A t (fun v s' => P v ∧ ∃ tk', s' = { s with heap := h, toks := tk' }) E' { s with heap := h, toks := tk }

theorem off1_mem {D : Addr} : ∀ {l : List (Addr × Obj)}, Off1 D l → ∀ p ∈ l, p.1 ≠ D
  | [], _, _, h => nomatch h
  | _ :: _, o, p, hp => by
    rcases List.mem_cons.mp hp with rfl | hp
    · exact o.1
    · exact off1_mem o.2 p hp
theorem comp_rest {S : List (Addr × Obj) → Prop} {P : Nat → Value → Prop} {Fin : List Value → List (Addr × Obj) → Prop} {n : Nat} {ks : List Int} (q : Int → Bool) (g : Int → Int) (hks : ks.length = n) (hS : S news)
    (hP : ∀ i v, i < n → P i v → ∃ k t, ks[i]? = some k ∧ v = .int k t)
    (hq : ∀ k C h, k ∈ ks → InTurn h₀ L m news x C k h → Quiet prog w A (isTrue ct (compEnvC scope cl C env) (eval ct (compEnvC scope cl C env))) s h (fun ok => ok = q k))
    (hg : ∀ k C h, k ∈ ks → q k = true → InTurn h₀ L m news x C k h → Quiet prog w A (eval elt (compEnvC scope cl C env)) s h (fun v => ∃ t, v = .int (g k) t))
    (fin : ∀ ys, IntsAre ys ((ks.filter q).map g) → Fin ys news) : CompRestT prog w A h₀ L m env ct elt x scope cl s S P Fin n 0 [] news := by
  have key : ∀ (j i : Nat) (ys : List Value), i + j = n → IntsAre ys (((ks.take i).filter q).map g) → CompRestT prog w A h₀ L m env ct elt x scope cl s S P Fin j i ys news := by
    intro j
    induction j with
    | zero =>
      intro i ys hi hy
      have e : i = ks.length := by omega
      rw [e, List.take_length] at hy
      exact CompRestT.zero (fin ys hy)
    | succ j ih =>
      intro i ys hi hy
      refine CompRestT.succ ?_
      intro v I oI C oC D m₂ h tk E' hv hC hx F N off ne
      obtain ⟨k, t, hk, rfl⟩ := hP i v (by omega) hv
      have hm : k ∈ ks := List.mem_of_getElem? hk
      have hit : InTurn h₀ L m news x C k h := ⟨t, I, oI, oC, D, ys, m₂, hC, hx, F, N⟩
      have ht : ks.take (i + 1) = ks.take i ++ [k] := by rw [List.take_add_one, hk]; rfl
      refine wpAny_mono (hq k C h hm hit tk E') (fun ok s₁ ⟨e1, tk1, e2⟩ => ?_) fun _ _ e => e
      subst e1 e2
      cases hqk : q k with
      | true =>
        rw [if_pos rfl]
        refine wpAny_mono (hg k C h hm hqk hit tk1 E') (fun y s₂ ⟨⟨t', e3⟩, tk2, e4⟩ => ?_) fun _ _ e => e
        subst e3 e4
        refine ⟨h, tk2, news, rfl, F, N, off, hS, ih (i + 1) _ (by omega) ?_⟩
        rw [ht, List.filter_append, List.map_append]
        refine IntsAre.append hy ?_
        rw [List.filter_cons, if_pos hqk]
        exact .cons _ _ .nil
      | false =>
        rw [if_neg Bool.false_ne_true]
        refine ⟨h, tk1, news, rfl, F, N, off, hS, ih (i + 1) _ (by omega) ?_⟩
        rw [ht, List.filter_append, List.map_append, List.filter_cons, if_neg (by rw [hqk]; exact Bool.false_ne_true), List.filter_nil, List.map_nil, List.append_nil]
        exact hy
  exact key n 0 [] (by omega) .nil

theorem comp_made {Q : Value → Shared → Prop} {Src : Value → Prop} {ks : List Int} (q : Int → Bool) (g : Int → Int) (F : Fr h₀ L s.heap m) (N : News h₀ L s.heap news) (hlen : ks.length ≤ 16777216)
    (hclos : closureFor scope env = pure cl) (hcell : ∀ y ∈ scope.names, y.2 ≠ .cell) (hkind : scope.kind = .function)
    (hnames : ∀ y ∈ scope.names, y.2 = .local → scope.names.lookup y.1 = some .local) (hx : scope.names.lookup x = some .local)
    (hi : wpAny (model prog w) A (eval iter env) (fun v s₁ => Src v ∧ s₁ = s) E s)
    (hs : ∀ x, foldedSetIterable iter env x = pure x)
    (hit : ∀ xv, Src xv → ∀ Q' : Value → Shared → Prop, (∀ (o : Obj) (fp : List Addr) (P : Nat → Value → Prop) (St : Nat → Heap → Prop), Walks prog w A s.heap.objs.size fp [s.heap.objs.size] ks.length P St → o.isFreed = false → St 0 (s.heap.push o) → (∀ b ∈ fp, b < (s.heap.push o).objs.size) →
        (∀ i h, St i h → ∃ o, h.get? s.heap.objs.size = some o) → (∀ i h h' o, St i h → h.get? s.heap.objs.size = some o → h'.get? s.heap.objs.size = some o → (∀ b o, h₀.get? b = some o → h'.get? b = some o) → St i h') →
        (∀ i v, i < ks.length → P i v → ∃ k t, ks[i]? = some k ∧ v = .int k t) → Q' (.ref s.heap.objs.size) { s with heap := s.heap.push o }) → wpAny (model prog w) A (pyIter xv) Q' E s)
    (hq : ∀ k C h, k ∈ ks → InTurn h₀ L m news x C k h → Quiet prog w A (isTrue ct (compEnvC scope cl C env) (eval ct (compEnvC scope cl C env))) s h (fun ok => ok = q k))
    (hg : ∀ k C h, k ∈ ks → q k = true → InTurn h₀ L m news x C k h → Quiet prog w A (eval elt (compEnvC scope cl C env)) s h (fun v => ∃ t, v = .int (g k) t))
    (hQ : ∀ D ys h tk, Fr h₀ L h m → News h₀ L h ((D, lst ys) :: news) → (∀ p ∈ news, p.1 ≠ D) → IntsAre ys ((ks.filter q).map g) → Q (.ref D) { s with heap := h, toks := tk }) :
    wpAny (model prog w) A (eval (.ListComp elt [⟨.Name x px, iter, [ct], 0⟩] scope pos) env) Q E s := by
  rw [eval_ListComp]
  refine wpAny_comprehension_free (use := none) rfl hs hclos hkind hnames (wpAny_mono hi (fun v s₁ ⟨ev, es⟩ => ?_) fun _ _ e => e)
  subst es
  refine hit v ev _ fun o fp P St W hof hst hfp hIo hSt hP => ?_
  have up : ∀ b ob, s₁.heap.get? b = some ob → (s₁.heap.push o).get? b = some ob := fun b ob e => Heap.get?_push_of_some _ e
  refine block_T (S := fun _ => True) (Fin := fun ys nw => FinE h₀ L m s₁ Q ys nw) W (by rw [sizeLine_eq]; exact hlen) hIo (fun i h h' ob nw st e1 e2 k _ _ => hSt i h h' ob st e1 e2 k) hcell hkind hx hst hfp
    (F.keeps up) (N.grown up) (Nat.ne_of_lt F.ns.lt) (next_is_new F) (fun p hp => Nat.ne_of_lt (Heap.lt_size (N p hp).1)) trivial
    (comp_rest (s := { s₁ with heap := s₁.heap.push o }) q g rfl trivial hP (fun k C h hk ht tk E' => hq k C h hk ht tk E') (fun k C h hk h2 ht tk E' => hg k C h hk h2 ht tk E') fun ys hy D h tk F' N' o1 => ?_) ?_
  · refine hQ D ys h tk F' N' ?_ hy
    exact off1_mem o1
  · intro D C h tk m' ys news' F' N' o1 hn hC₀ hD₀ hCL hDL hCD offC fin
    refine ⟨m', hn, fun h'' hs'' => fin D h'' tk (F'.change hs'' hCL hC₀) (fun p hp => ?_) o1⟩
    refine ⟨hs''.extBut _ _ ?_ (N' p hp).1, (N' p hp).2⟩
    rcases List.mem_cons.mp hp with rfl | hp
    · exact Ne.symm hCD
    · exact offC p hp
/-- `[elt for x in a tuple of ints if ct]` -/
theorem comp_tup {Q : Value → Shared → Prop} {ax : Addr} {its : List Value} {ks : List Int} (q : Int → Bool) (g : Int → Int) (F : Fr h₀ L s.heap m) (N : News h₀ L s.heap news) (hh : A.handled = none) (ht : h₀.IsTuple ax its.toArray) (hI : IntsAre its ks) (hlen : ks.length ≤ 64)
    (hclos : closureFor scope env = pure cl) (hcell : ∀ y ∈ scope.names, y.2 ≠ .cell) (hkind : scope.kind = .function)
    (hnames : ∀ y ∈ scope.names, y.2 = .local → scope.names.lookup y.1 = some .local) (hx : scope.names.lookup x = some .local)
    (hi : wpAny (model prog w) A (eval iter env) (fun v s₁ => v = .ref ax ∧ s₁ = s) E s)
    (hs : ∀ x, foldedSetIterable iter env x = pure x)
    (hq : ∀ k C h, k ∈ ks → InTurn h₀ L m news x C k h → Quiet prog w A (isTrue ct (compEnvC scope cl C env) (eval ct (compEnvC scope cl C env))) s h (fun ok => ok = q k))
    (hg : ∀ k C h, k ∈ ks → q k = true → InTurn h₀ L m news x C k h → Quiet prog w A (eval elt (compEnvC scope cl C env)) s h (fun v => ∃ t, v = .int (g k) t))
    (hQ : ∀ D ys h tk, Fr h₀ L h m → News h₀ L h ((D, lst ys) :: news) → (∀ p ∈ news, p.1 ≠ D) → IntsAre ys ((ks.filter q).map g) → Q (.ref D) { s with heap := h, toks := tk }) :
    wpAny (model prog w) A (eval (.ListComp elt [⟨.Name x px, iter, [ct], 0⟩] scope pos) env) Q E s := by
  have hlt : ax < s.heap.objs.size := by
    obtain ⟨o, e, _⟩ := ht
    exact Heap.lt_size (F.keep _ _ e)
  have htup : s.heap.IsTuple ax its.toArray := ht.at fun o e => F.keep _ _ e
  refine comp_made (Src := fun v => v = .ref ax) q g F N (by omega) hclos hcell hkind hnames hx hi hs (fun xv hxv Q' hQ' => ?_) hq hg hQ
  subst hxv
  have hsz : its.toArray.size = ks.length := by rw [List.size_toArray]; exact hI.length
  refine wpAny_pyIter_tuple htup ?_
  refine hQ' _ [s.heap.objs.size, ax] _ _ (hsz ▸ Walks.tuple hh s.heap.objs.size ax (Nat.ne_of_lt hlt) its.toArray) rfl ⟨⟨_, Heap.get?_push_size _ rfl, rfl, rfl⟩, htup.push _⟩ (fun b hb => ?_) (fun i h st => by obtain ⟨o, e, _⟩ := st.1; exact ⟨o, e⟩) (fun i h h' o st e1 e2 k => ?_) fun i v _ hv => ?_
  · rw [Heap.size_push]
    rcases List.mem_cons.mp hb with rfl | hb
    · exact Nat.lt_succ_self _
    · rw [List.mem_singleton.mp hb]; exact Nat.lt_succ_of_lt hlt
  · refine ⟨?_, ht.at fun o e => k _ _ e⟩
    obtain ⟨o', e3, r⟩ := st.1
    rw [e1] at e3
    cases e3
    exact ⟨o, e2, r⟩
  · obtain ⟨k, t, e, hk⟩ := IntsAre.at hI i v (by simpa using hv)
    exact ⟨k, t, hk, e⟩
/-- `[elt for x in some bytes if ct]` -/
theorem comp_bytes {Q : Value → Shared → Prop} {b : Array UInt8} {ks : List Int} (q : Int → Bool) (g : Int → Int) (F : Fr h₀ L s.heap m) (N : News h₀ L s.heap news) (hh : A.handled = none) (hb : KBw.bInts b = ks) (hlen : ks.length ≤ 16777216)
    (hclos : closureFor scope env = pure cl) (hcell : ∀ y ∈ scope.names, y.2 ≠ .cell) (hkind : scope.kind = .function)
    (hnames : ∀ y ∈ scope.names, y.2 = .local → scope.names.lookup y.1 = some .local) (hx : scope.names.lookup x = some .local)
    (hi : wpAny (model prog w) A (eval iter env) (fun v s₁ => (∃ tb, v = .bytes b tb) ∧ s₁ = s) E s)
    (hs : ∀ x, foldedSetIterable iter env x = pure x)
    (hq : ∀ k C h, k ∈ ks → InTurn h₀ L m news x C k h → Quiet prog w A (isTrue ct (compEnvC scope cl C env) (eval ct (compEnvC scope cl C env))) s h (fun ok => ok = q k))
    (hg : ∀ k C h, k ∈ ks → q k = true → InTurn h₀ L m news x C k h → Quiet prog w A (eval elt (compEnvC scope cl C env)) s h (fun v => ∃ t, v = .int (g k) t))
    (hQ : ∀ D ys h tk, Fr h₀ L h m → News h₀ L h ((D, lst ys) :: news) → (∀ p ∈ news, p.1 ≠ D) → IntsAre ys ((ks.filter q).map g) → Q (.ref D) { s with heap := h, toks := tk }) :
    wpAny (model prog w) A (eval (.ListComp elt [⟨.Name x px, iter, [ct], 0⟩] scope pos) env) Q E s := by
  refine comp_made (Src := fun v => ∃ tb, v = .bytes b tb) q g F N hlen hclos hcell hkind hnames hx hi hs (fun xv hxv Q' hQ' => ?_) hq hg hQ
  obtain ⟨tb, rfl⟩ := hxv
  have hsz : b.size = ks.length := by rw [← KBw.ints_length, hb]
  refine KBw.pyIter_bytes ?_
  have W := KBw.walks (prog := prog) (w := w) hh s.heap.objs.size b tb
  rw [hsz] at W
  refine hQ' _ [s.heap.objs.size] _ _ W rfl ⟨_, Heap.get?_push_size _ rfl, rfl, rfl⟩ (fun b hb => ?_) (fun i h st => by obtain ⟨o, e, _⟩ := st; exact ⟨o, e⟩) (fun i h h' o st e1 e2 k => ?_) fun i v _ hv => ?_
  · rw [Heap.size_push, List.mem_singleton.mp hb]
    exact Nat.lt_succ_self _
  · obtain ⟨o', e3, r⟩ := st
    rw [e1] at e3
    cases e3
    exact ⟨o, e2, r⟩
  · obtain ⟨n, u, hn, rfl⟩ := hv
    exact ⟨_, u, hb ▸ KBw.ints_get hn, rfl⟩
end

end
/-! Rules3 -/
section
/- --pure -/
section
variable {prog : Program} {w : World} {A : Around} {E : Value → Shared → Prop} {s : Shared}
theorem bytes_has {b : Array UInt8} {ks : List Int} (hb : KBw.bInts b = ks) {x : Int} (h0 : 0 ≤ x) (h1 : x < 256) : b.contains x.toNat.toUInt8 = decide (x ∈ ks) := by
  subst hb
  have e : (b.contains x.toNat.toUInt8 = true) ↔ (x ∈ KBw.bInts b) := by
    rw [Array.contains_iff_mem, ← Array.mem_toList_iff]
    unfold KBw.bInts
    rw [List.mem_map]
    constructor
    · intro h
      refine ⟨_, h, ?_⟩
      have : x.toNat.toUInt8.toNat = x.toNat := by
        rw [Nat.toUInt8, UInt8.toNat_ofNat']
        omega
      omega
    · rintro ⟨c, hc, rfl⟩
      have : ((c.toNat : Int)).toNat.toUInt8 = c := by
        rw [Int.toNat_natCast]
        exact UInt8.ofNat_toNat
      rw [this]
      exact hc
  cases hd : decide (x ∈ KBw.bInts b) with
  | true => exact e.mpr (of_decide_eq_true hd)
  | false =>
    cases hc : b.contains x.toNat.toUInt8 with
    | false => rfl
    | true => exact absurd (e.mp hc) (of_decide_eq_false hd)
theorem contains_bytes_int {b : Array UInt8} {ks : List Int} {t u : Tok} {x : Int} {Q : Bool → Shared → Prop} (hb : KBw.bInts b = ks) (h0 : 0 ≤ x) (h1 : x < 256) (h : Q (decide (x ∈ ks)) s) :
    wpAny (model prog w) A (contains (.bytes b t) (.int x u)) Q E s := by
  unfold contains
  refine wpAny_holding ?_
  refine wpAny_bind (wpAny_specialOf (typeIs_bytes s b t) FB.slot_bytes_contains.lookup ?_)
  rw [if_neg (by decide)]
  refine wpAny_bind (wpAny_callSpecialUnlessNone?_slot (name := Str.ofString "__contains__") (typeIs_bytes s b t) FB.slot_bytes_contains
    (wpAny_call_entry FB.slot_bytes_contains (typeIs_bytes s b t) FB.entry_bytes_contains ?_ (FB.args_bytes_contains_2 _ _)))
  show wpAny _ _ (PySem.Builtin.Bytes.containsIn "bytes.__contains__" (.bytes b t) (.int x u) >>= fun r => _) _ _ s
  refine wpAny_bind ?_
  unfold PySem.Builtin.Bytes.containsIn
  refine wpAny_bind (wpAny_of_eq (a := Except.ok x) rfl ?_)
  refine wpAny_bind (wpAny_of_eq KBy.buffer_eq ?_)
  dsimp only
  rw [if_neg (by simp; omega), bytes_has hb h0 h1]
  exact wpAny_pure (wpAny_pure ⟨_, rfl, wpAny_truthy_bool h⟩)
theorem in_bytes_int {b : Array UInt8} {ks : List Int} {t u : Tok} {x : Int} {Q : Value → Shared → Prop} (hb : KBw.bInts b = ks) (h0 : 0 ≤ x) (h1 : x < 256) (h : Q (.bool (decide (x ∈ ks))) s) :
    wpAny (model prog w) A (compareOp .In (.int x u) (.bytes b t)) Q E s := by
  show wpAny _ _ (do return .bool (← contains (.bytes b t) (.int x u))) Q E s
  exact wpAny_bind (contains_bytes_int hb h0 h1 (wpAny_pure h))
end

end
/-! F5 -/
section
local macro_rules | `(tactic| walk_at $s:str) => `(tactic| k_extra $s)
local macro_rules | `(tactic| k_all) => `(tactic| (refine' List.forall_mem_append.mpr ⟨?zka, ?zkb⟩; (case zka => k_all); (case zkb => k_all)))
set_option maxHeartbeats 8000000 in
theorem copied_spec (b c : Array UInt8) (ks cs : List Int) (o : Int) (t t1 t2 : Tok) (hk : KBw.bInts b = ks) (hc : KBw.bInts c = cs) (hb : ks.length ≤ 64) (hb2 : cs.length ≤ 60) (hb3 : 2 ≤ cs.length) :
    Spec 121 1 8 [.bytes b t, .bytes c t1, .int o t2] [] (fun _ => True) (PBytes (copied cs o ks).2) := by
  intro prog w mean mg mb A env outer A₀ base h₀ L m s Q E B F X T hhd hA hf hke hd hu hpre hret
  obtain ⟨hdl, dp, fr, gd, un⟩ := A
  dsimp only at hhd hA hd hu hpre
  subst hhd hA
  refine wpAny_call ?_
  k_dflt (refine' enterPC ?k1 ?k2 ?k3 ?k5 ?kA ?kF ?kK ?k6 ?k7 ?k8 ?k9 ?kB ?kD ?_ ?c2 ?c3 ?c4; (case kA => exact rfl); (case kF => assumption); (case kK => assumption); (case k1 => k_asm); (case k2 => k_asm); (case k3 => k_asm);  (case k5 => k_asm); (case k6 => k_is); (case k7 => k_is); (case k8 => (try dsimp only); omega); (case k9 => first | exact BindsTo.of_eq rfl | exact binds_K (by k_in) rfl (by k_is) rfl rfl rfl | (refine' kp_binds ?kx ?ke; (case kx => k_in); (case ke => exact fun _ => rfl))); (case kB => exact rfl); (case kD => decide +kernel); (case c2 => exact rfl); (case c3 => exact rfl); (case c4 => exact rfl); k_whole; intro L' h' tk' cells' F' N' Y' B' X' T'; k_cells Y'; (try simp only [List.cons_append, List.nil_append] at N'); (try dsimp only); (try k_lift B'); (try k_fold))
  have hT0 : IsTup s.heap 78 #[.int 48 290, .int 79 291, .int 111 292] := ⟨_, X' 78 _ (by k_is), rfl, _, rfl⟩
  have hT1 : IsTup s.heap 79 #[.int 73 293, .int 108 294, .int 49 295] := ⟨_, X' 79 _ (by k_is), rfl, _, rfl⟩
  have hI0 : IntsAre [.int 48 290, .int 79 291, .int 111 292] g0 := .cons _ _ (.cons _ _ (.cons _ _ .nil))
  have hI1 : IntsAre [.int 73 293, .int 108 294, .int 49 295] g1 := .cons _ _ (.cons _ _ (.cons _ _ .nil))
  have hr0 : ∀ k ∈ g0, 0 ≤ k ∧ k < 256 := by decide
  have hr1 : ∀ k ∈ g1, 0 ≤ k ∧ k < 256 := by decide
  (k_with_none; (k_with "pyIter ref" => refine Stop.out ?_); (k_with "pyIter bytes" => refine Stop.out ?_); (k_with "exec While" => refine Stop.out ?_); (k_with "exec While Compare" => refine Stop.out ?_); (k_with "exec While BoolOp" => refine Stop.out ?_); (k_with "exec While Compare cons nil" => refine Stop.out ?_); (k_with "exec While Name" => refine Stop.out ?_); (k_with "InvEndN" => refine Stop.out ?_); (k_with "KswEnd" => refine Stop.out ?_))
  k_steps
  refine Stop.mk ?_; (rename Fr s.heap _ _ _ => FF); (rename News s.heap _ _ _ => NN)
  k_with "exec For Name Name cons nil" => refine Stop.out ?_
  refine loop1B (ι := Bool) (vs₀ := []) (xs₀ := []) (fun f => [(Str.ofString "front", .bool f)]) true [Str.ofString "here", Str.ofString "group"] (fun pre out f => CopI cs o pre f out ∧ out.length ≤ pre.length) hk rfl FF NN .nil (fun p hp => by rw [List.mem_singleton.mp hp]; rfl) ⟨⟨rfl⟩, by simp⟩ ?zq5 ?zq6
  case zq5 =>
    clear FF NN
    intro out ovs oc f pre post x tx u h tk own hks hlo hhi hoff hfacts hp FF NN
    obtain ⟨hcop, hol⟩ := hp
    dsimp only [List.map_cons, List.map_nil, List.cons_append, List.nil_append] at hoff NN
    have hpl : pre.length < ks.length := by rw [hks, List.length_append, List.length_cons]; omega
    have hc0 : cs.getD (Int.toNat 0) 0 = cs.getD 0 0 := rfl
    cases f with
    | true =>
      k_steps
      · refine Stop.mk ?_; (rename Fr s.heap _ _ _ => FF); (rename News s.heap _ _ _ => NN)
        refine cut2 (τ := Tok × Option Value) FF NN (fun t m => fun y => if y = Str.ofString "group" then t.2 else if y = Str.ofString "here" then some (.int (copy1 cs o x) t.1) else m y) ?zi1_1 ?zi2_1
        case zi1_1 =>
          (k_with_none; (k_with "pyIter ref" => refine Stop.out ?_); (k_with "pyIter bytes" => refine Stop.out ?_); (k_with "exec While" => refine Stop.out ?_); (k_with "exec While Compare" => refine Stop.out ?_); (k_with "exec While BoolOp" => refine Stop.out ?_); (k_with "exec While Compare cons nil" => refine Stop.out ?_); (k_with "exec While Name" => refine Stop.out ?_); (k_with "InvEndN" => refine Stop.out ?_); (k_with "KswEnd" => refine Stop.out ?_))
          k_with "exec For Name Name cons nil" => ((rename Fr _ _ _ _ => lF9); (with_unfolding_all refine For_invVF lF9 (by exact rfl) (by exact rfl) ?_))
          k_with "compareOp In int bytes" => first
            | refine in_bytes_int hc (hr0 _ (by assumption)).1 (hr0 _ (by assumption)).2 ?_
            | refine in_bytes_int hc (hr1 _ (by assumption)).1 (hr1 _ (by assumption)).2 ?_
          k_with "call builtin:len" => (k_dflt (refine kst_len NL (by k_memK) lenL (by first | omega | (exact Int.lt_of_le_of_lt (Int.ofNat_le.mpr (cnt_le _ _)) (by decide))) ?_))
          k_with "compareOp In int ref" => first
            | refine in_tuple_ints (ns := g0) (IsTup.keeps hT0 (Fr.keep (by assumption))) hI0 ?_
            | refine in_tuple_ints (ns := g1) (IsTup.keeps hT1 (Fr.keep (by assumption))) hI1 ?_
          k_steps
          refine Stop.mk ?_; (rename Fr s.heap _ _ _ => FF); (rename News s.heap _ _ _ => NN)
          refine loopTH (its := [.ref 78, .ref 79]) (nm := Str.ofString "here") (fun i => if i = 0 then x else if i = 1 then exch cs o g0 x x else copy1 cs o x) (by decide) rfl ⟨_, X' 80 _ (by k_is), rfl, _, rfl⟩ FF NN rfl ?zj1_1 ?zj2_1
          case zj1_1 =>
            intro i v tok hh tk own2 hv hoff2 FF NN
            match i, hv with
            | 0, hv =>
              obtain rfl : v = .ref 78 := by simpa using hv.symm
              dsimp only [List.map_cons, List.map_nil, List.cons_append, List.nil_append] at hoff2 NN FF
              k_with "eval ListComp" => (k_dflt ((rename Fr s.heap _ _ _ => FC); (rename News s.heap _ _ _ => NC); (refine comp_tup (its := [.int 48 290, .int 79 291, .int 111 292]) (ks := g0) (fun k => decide (k ∈ cs)) (fun k => k) FC NC rfl hT0 hI0 (by decide) (by with_unfolding_all rfl) (by decide) (by rfl) (by decide) (by rfl) (by k_steps) (fun _ => rfl) (fun k C h hk hit tk E' => by (obtain ⟨t, I, oI, oC, D, ys, m₂, hC, hx, F1, N1⟩ := hit); k_steps) (fun k C h hk _ hit tk E' => by (obtain ⟨t, I, oI, oC, D, ys, m₂, hC, hx, F1, N1⟩ := hit); k_steps) ?_); intro DL ysL hL tkL FL NL offL iL; have lenL := cnt_of iL))
              k_steps
              · (refine Stop.mk ?_; (rename Fr s.heap _ _ _ => FF); (rename News s.heap _ _ _ => NN); (have eH := exch_yes (cs := cs) (o := o) (g := g0) (x := x) (here := x) (by assumption) (by assumption)); refine endH FF NN (by kcf_all) (by kcf_all) (congrArg (fun k => some (Value.int k _)) eH.symm) (by (intro z h1 h2; first | rfl | (simp [h1, h2]; done))))
              · (refine Stop.mk ?_; (rename Fr s.heap _ _ _ => FF); (rename News s.heap _ _ _ => NN); (have eH := exch_not (cs := cs) (o := o) (g := g0) (x := x) (here := x) (by assumption)); refine endH FF NN (by kcf_all) (by kcf_all) (congrArg (fun k => some (Value.int k _)) eH.symm) (by (intro z h1 h2; first | rfl | (simp [h1, h2]; done))))
              · (refine Stop.mk ?_; (rename Fr s.heap _ _ _ => FF); (rename News s.heap _ _ _ => NN); (have eH := exch_no (cs := cs) (o := o) (g := g0) (x := x) (here := x) (by assumption)); refine endH FF NN (by kcf_all) (by kcf_all) (congrArg (fun k => some (Value.int k _)) eH.symm) (by (intro z h1 h2; first | rfl | (simp [h1, h2]; done))))
            | 1, hv =>
              obtain rfl : v = .ref 79 := by simpa using hv.symm
              dsimp only [List.map_cons, List.map_nil, List.cons_append, List.nil_append] at hoff2 NN FF
              k_with "eval ListComp" => (k_dflt ((rename Fr s.heap _ _ _ => FC); (rename News s.heap _ _ _ => NC); (refine comp_tup (its := [.int 73 293, .int 108 294, .int 49 295]) (ks := g1) (fun k => decide (k ∈ cs)) (fun k => k) FC NC rfl hT1 hI1 (by decide) (by with_unfolding_all rfl) (by decide) (by rfl) (by decide) (by rfl) (by k_steps) (fun _ => rfl) (fun k C h hk hit tk E' => by (obtain ⟨t, I, oI, oC, D, ys, m₂, hC, hx, F1, N1⟩ := hit); k_steps) (fun k C h hk _ hit tk E' => by (obtain ⟨t, I, oI, oC, D, ys, m₂, hC, hx, F1, N1⟩ := hit); k_steps) ?_); intro DL ysL hL tkL FL NL offL iL; have lenL := cnt_of iL))
              k_steps
              · (refine Stop.mk ?_; (rename Fr s.heap _ _ _ => FF); (rename News s.heap _ _ _ => NN); (have eH := exch_yes (cs := cs) (o := o) (g := g1) (x := x) (here := exch cs o g0 x x) (by assumption) (by assumption)); refine endH FF NN (by kcf_all) (by kcf_all) (congrArg (fun k => some (Value.int k _)) eH.symm) (by (intro z h1 h2; first | rfl | (simp [h1, h2]; done))))
              · (refine Stop.mk ?_; (rename Fr s.heap _ _ _ => FF); (rename News s.heap _ _ _ => NN); (have eH := exch_not (cs := cs) (o := o) (g := g1) (x := x) (here := exch cs o g0 x x) (by assumption)); refine endH FF NN (by kcf_all) (by kcf_all) (congrArg (fun k => some (Value.int k _)) eH.symm) (by (intro z h1 h2; first | rfl | (simp [h1, h2]; done))))
              · (refine Stop.mk ?_; (rename Fr s.heap _ _ _ => FF); (rename News s.heap _ _ _ => NN); (have eH := exch_no (cs := cs) (o := o) (g := g1) (x := x) (here := exch cs o g0 x x) (by assumption)); refine endH FF NN (by kcf_all) (by kcf_all) (congrArg (fun k => some (Value.int k _)) eH.symm) (by (intro z h1 h2; first | rfl | (simp [h1, h2]; done))))
          case zj2_1 =>
            intro tok gv hh tk FF NN
            exact ⟨rfl, hh, tk, (tok, gv), rfl, FF, NN⟩
        case zi2_1 =>
          intro hh tk tg FF NN
          obtain ⟨tok, gv⟩ := tg
          dsimp only at FF
          (k_with_none; (k_with "pyIter ref" => refine Stop.out ?_); (k_with "pyIter bytes" => refine Stop.out ?_); (k_with "exec While" => refine Stop.out ?_); (k_with "exec While Compare" => refine Stop.out ?_); (k_with "exec While BoolOp" => refine Stop.out ?_); (k_with "exec While Compare cons nil" => refine Stop.out ?_); (k_with "exec While Name" => refine Stop.out ?_); (k_with "InvEndN" => refine Stop.out ?_); (k_with "KswEnd" => refine Stop.out ?_))
          dsimp only
          k_steps
          (refine Stop.mk ?_; (rename Fr s.heap _ _ _ => FF); (rename News s.heap _ _ _ => NN); (try simp only [List.push_toArray] at NN); refine end1 (out := ?zo_17) (vs := ?zv_17) (n := ?zn_17) (?zp1_1) FF NN ?zE1_17 ?zE2_17 ?zE3_17 ?zE4_17 ?zE5_17 ?zE6_17; (case zE1_17 => (refine List.forall_mem_cons.mpr ⟨by k_memK, ?_⟩; intro p hp; kst_mem)); (case zE2_17 => (intro p hp; kst_mem)); (case zE3_17 => first | assumption | k_intsEnd); (case zE4_17 => kst_all); (case zE5_17 => (intro z h1 h2 h3; (try simp only [List.forall_mem_cons, List.not_mem_nil, false_implies, implies_true, and_true, ne_eq] at h2); (try simp only [List.contains_cons, List.contains_nil, Bool.or_false, Bool.or_eq_false_iff, beq_eq_false_iff_ne, ne_eq] at h3); first | rfl | (simp [kstB, h1, h2, h3]; done) | (simp [kstB, h1, h3]; done) | (simp [kstB, h1, h2]; done) | (simp [kstB, h1]; done))))
          exact ⟨hcop.step (by rw [decide_eq_false (show ¬ x = cs.getD 0 0 from by assumption)]; rfl) (by simp), by simp only [List.length_append, List.length_singleton]; omega⟩
      · refine Stop.mk ?_; (rename Fr s.heap _ _ _ => FF); (rename News s.heap _ _ _ => NN)
        refine cut2 (τ := Tok × Option Value) FF NN (fun t m => fun y => if y = Str.ofString "group" then t.2 else if y = Str.ofString "here" then some (.int x t.1) else m y) ?zi1_2 ?zi2_2
        case zi1_2 =>
          (k_with_none; (k_with "pyIter ref" => refine Stop.out ?_); (k_with "pyIter bytes" => refine Stop.out ?_); (k_with "exec While" => refine Stop.out ?_); (k_with "exec While Compare" => refine Stop.out ?_); (k_with "exec While BoolOp" => refine Stop.out ?_); (k_with "exec While Compare cons nil" => refine Stop.out ?_); (k_with "exec While Name" => refine Stop.out ?_); (k_with "InvEndN" => refine Stop.out ?_); (k_with "KswEnd" => refine Stop.out ?_))
          k_with "exec For Name Name cons nil" => ((rename Fr _ _ _ _ => lF9); (with_unfolding_all refine For_invVF lF9 (by exact rfl) (by exact rfl) ?_))
          k_with "compareOp In int ref" => first
            | refine in_tuple_ints (ns := g0) (IsTup.keeps hT0 (Fr.keep (by assumption))) hI0 ?_
            | refine in_tuple_ints (ns := g1) (IsTup.keeps hT1 (Fr.keep (by assumption))) hI1 ?_
          k_steps
          refine Stop.mk ?_; (rename Fr s.heap _ _ _ => FF); (rename News s.heap _ _ _ => NN)
          refine loopTH (its := [.ref 78, .ref 79]) (nm := Str.ofString "here") (fun i => x) (by decide) rfl ⟨_, X' 80 _ (by k_is), rfl, _, rfl⟩ FF NN rfl ?zj1_2 ?zj2_2
          case zj1_2 =>
            intro i v tok hh tk own2 hv hoff2 FF NN
            match i, hv with
            | 0, hv =>
              obtain rfl : v = .ref 78 := by simpa using hv.symm
              dsimp only [List.map_cons, List.map_nil, List.cons_append, List.nil_append] at hoff2 NN FF
              k_steps
              · (refine Stop.mk ?_; (rename Fr s.heap _ _ _ => FF); (rename News s.heap _ _ _ => NN); (have eH := rfl (a := x)); refine endH FF NN (by kcf_all) (by kcf_all) (congrArg (fun k => some (Value.int k _)) eH.symm) (by (intro z h1 h2; first | rfl | (simp [h1, h2]; done))))
              · (refine Stop.mk ?_; (rename Fr s.heap _ _ _ => FF); (rename News s.heap _ _ _ => NN); (have eH := rfl (a := x)); refine endH FF NN (by kcf_all) (by kcf_all) (congrArg (fun k => some (Value.int k _)) eH.symm) (by (intro z h1 h2; first | rfl | (simp [h1, h2]; done))))
            | 1, hv =>
              obtain rfl : v = .ref 79 := by simpa using hv.symm
              dsimp only [List.map_cons, List.map_nil, List.cons_append, List.nil_append] at hoff2 NN FF
              k_steps
              · (refine Stop.mk ?_; (rename Fr s.heap _ _ _ => FF); (rename News s.heap _ _ _ => NN); (have eH := rfl (a := x)); refine endH FF NN (by kcf_all) (by kcf_all) (congrArg (fun k => some (Value.int k _)) eH.symm) (by (intro z h1 h2; first | rfl | (simp [h1, h2]; done))))
              · (refine Stop.mk ?_; (rename Fr s.heap _ _ _ => FF); (rename News s.heap _ _ _ => NN); (have eH := rfl (a := x)); refine endH FF NN (by kcf_all) (by kcf_all) (congrArg (fun k => some (Value.int k _)) eH.symm) (by (intro z h1 h2; first | rfl | (simp [h1, h2]; done))))
          case zj2_2 =>
            intro tok gv hh tk FF NN
            exact ⟨rfl, hh, tk, (tok, gv), rfl, FF, NN⟩
        case zi2_2 =>
          intro hh tk tg FF NN
          obtain ⟨tok, gv⟩ := tg
          dsimp only at FF
          (k_with_none; (k_with "pyIter ref" => refine Stop.out ?_); (k_with "pyIter bytes" => refine Stop.out ?_); (k_with "exec While" => refine Stop.out ?_); (k_with "exec While Compare" => refine Stop.out ?_); (k_with "exec While BoolOp" => refine Stop.out ?_); (k_with "exec While Compare cons nil" => refine Stop.out ?_); (k_with "exec While Name" => refine Stop.out ?_); (k_with "InvEndN" => refine Stop.out ?_); (k_with "KswEnd" => refine Stop.out ?_))
          dsimp only
          k_steps
          (refine Stop.mk ?_; (rename Fr s.heap _ _ _ => FF); (rename News s.heap _ _ _ => NN); (try simp only [List.push_toArray] at NN); refine end1 (out := ?zo_27) (vs := ?zv_27) (n := ?zn_27) (?zp1_2) FF NN ?zE1_27 ?zE2_27 ?zE3_27 ?zE4_27 ?zE5_27 ?zE6_27; (case zE1_27 => (refine List.forall_mem_cons.mpr ⟨by k_memK, ?_⟩; intro p hp; kst_mem)); (case zE2_27 => (intro p hp; kst_mem)); (case zE3_27 => first | assumption | k_intsEnd); (case zE4_27 => kst_all); (case zE5_27 => (intro z h1 h2 h3; (try simp only [List.forall_mem_cons, List.not_mem_nil, false_implies, implies_true, and_true, ne_eq] at h2); (try simp only [List.contains_cons, List.contains_nil, Bool.or_false, Bool.or_eq_false_iff, beq_eq_false_iff_ne, ne_eq] at h3); first | rfl | (simp [kstB, h1, h2, h3]; done) | (simp [kstB, h1, h3]; done) | (simp [kstB, h1, h2]; done) | (simp [kstB, h1]; done))))
          exact ⟨hcop.step (by rw [decide_eq_true (show x = cs.getD 0 0 from by assumption)]; rfl) (by simp), by simp only [List.length_append, List.length_singleton]; omega⟩
    | false =>
      (k_with_none; (k_with "pyIter ref" => refine Stop.out ?_); (k_with "pyIter bytes" => refine Stop.out ?_); (k_with "exec While" => refine Stop.out ?_); (k_with "exec While Compare" => refine Stop.out ?_); (k_with "exec While BoolOp" => refine Stop.out ?_); (k_with "exec While Compare cons nil" => refine Stop.out ?_); (k_with "exec While Name" => refine Stop.out ?_); (k_with "InvEndN" => refine Stop.out ?_); (k_with "KswEnd" => refine Stop.out ?_))
      k_with "exec For Name Name cons nil" => refine Stop.out ?_
      k_steps
      · refine Stop.mk ?_; (rename Fr s.heap _ _ _ => FF); (rename News s.heap _ _ _ => NN)
        refine cut2 (τ := Tok × Option Value) FF NN (fun t m => fun y => if y = Str.ofString "group" then t.2 else if y = Str.ofString "here" then some (.int (copy1 cs o x) t.1) else m y) ?zi1_3 ?zi2_3
        case zi1_3 =>
          (k_with_none; (k_with "pyIter ref" => refine Stop.out ?_); (k_with "pyIter bytes" => refine Stop.out ?_); (k_with "exec While" => refine Stop.out ?_); (k_with "exec While Compare" => refine Stop.out ?_); (k_with "exec While BoolOp" => refine Stop.out ?_); (k_with "exec While Compare cons nil" => refine Stop.out ?_); (k_with "exec While Name" => refine Stop.out ?_); (k_with "InvEndN" => refine Stop.out ?_); (k_with "KswEnd" => refine Stop.out ?_))
          k_with "exec For Name Name cons nil" => ((rename Fr _ _ _ _ => lF9); (with_unfolding_all refine For_invVF lF9 (by exact rfl) (by exact rfl) ?_))
          k_with "compareOp In int bytes" => first
            | refine in_bytes_int hc (hr0 _ (by assumption)).1 (hr0 _ (by assumption)).2 ?_
            | refine in_bytes_int hc (hr1 _ (by assumption)).1 (hr1 _ (by assumption)).2 ?_
          k_with "call builtin:len" => (k_dflt (refine kst_len NL (by k_memK) lenL (by first | omega | (exact Int.lt_of_le_of_lt (Int.ofNat_le.mpr (cnt_le _ _)) (by decide))) ?_))
          k_with "compareOp In int ref" => first
            | refine in_tuple_ints (ns := g0) (IsTup.keeps hT0 (Fr.keep (by assumption))) hI0 ?_
            | refine in_tuple_ints (ns := g1) (IsTup.keeps hT1 (Fr.keep (by assumption))) hI1 ?_
          k_steps
          refine Stop.mk ?_; (rename Fr s.heap _ _ _ => FF); (rename News s.heap _ _ _ => NN)
          refine loopTH (its := [.ref 78, .ref 79]) (nm := Str.ofString "here") (fun i => if i = 0 then x else if i = 1 then exch cs o g0 x x else copy1 cs o x) (by decide) rfl ⟨_, X' 80 _ (by k_is), rfl, _, rfl⟩ FF NN rfl ?zj1_3 ?zj2_3
          case zj1_3 =>
            intro i v tok hh tk own2 hv hoff2 FF NN
            match i, hv with
            | 0, hv =>
              obtain rfl : v = .ref 78 := by simpa using hv.symm
              dsimp only [List.map_cons, List.map_nil, List.cons_append, List.nil_append] at hoff2 NN FF
              k_with "eval ListComp" => (k_dflt ((rename Fr s.heap _ _ _ => FC); (rename News s.heap _ _ _ => NC); (refine comp_tup (its := [.int 48 290, .int 79 291, .int 111 292]) (ks := g0) (fun k => decide (k ∈ cs)) (fun k => k) FC NC rfl hT0 hI0 (by decide) (by with_unfolding_all rfl) (by decide) (by rfl) (by decide) (by rfl) (by k_steps) (fun _ => rfl) (fun k C h hk hit tk E' => by (obtain ⟨t, I, oI, oC, D, ys, m₂, hC, hx, F1, N1⟩ := hit); k_steps) (fun k C h hk _ hit tk E' => by (obtain ⟨t, I, oI, oC, D, ys, m₂, hC, hx, F1, N1⟩ := hit); k_steps) ?_); intro DL ysL hL tkL FL NL offL iL; have lenL := cnt_of iL))
              k_steps
              · (refine Stop.mk ?_; (rename Fr s.heap _ _ _ => FF); (rename News s.heap _ _ _ => NN); (have eH := exch_yes (cs := cs) (o := o) (g := g0) (x := x) (here := x) (by assumption) (by assumption)); refine endH FF NN (by kcf_all) (by kcf_all) (congrArg (fun k => some (Value.int k _)) eH.symm) (by (intro z h1 h2; first | rfl | (simp [h1, h2]; done))))
              · (refine Stop.mk ?_; (rename Fr s.heap _ _ _ => FF); (rename News s.heap _ _ _ => NN); (have eH := exch_not (cs := cs) (o := o) (g := g0) (x := x) (here := x) (by assumption)); refine endH FF NN (by kcf_all) (by kcf_all) (congrArg (fun k => some (Value.int k _)) eH.symm) (by (intro z h1 h2; first | rfl | (simp [h1, h2]; done))))
              · (refine Stop.mk ?_; (rename Fr s.heap _ _ _ => FF); (rename News s.heap _ _ _ => NN); (have eH := exch_no (cs := cs) (o := o) (g := g0) (x := x) (here := x) (by assumption)); refine endH FF NN (by kcf_all) (by kcf_all) (congrArg (fun k => some (Value.int k _)) eH.symm) (by (intro z h1 h2; first | rfl | (simp [h1, h2]; done))))
            | 1, hv =>
              obtain rfl : v = .ref 79 := by simpa using hv.symm
              dsimp only [List.map_cons, List.map_nil, List.cons_append, List.nil_append] at hoff2 NN FF
              k_with "eval ListComp" => (k_dflt ((rename Fr s.heap _ _ _ => FC); (rename News s.heap _ _ _ => NC); (refine comp_tup (its := [.int 73 293, .int 108 294, .int 49 295]) (ks := g1) (fun k => decide (k ∈ cs)) (fun k => k) FC NC rfl hT1 hI1 (by decide) (by with_unfolding_all rfl) (by decide) (by rfl) (by decide) (by rfl) (by k_steps) (fun _ => rfl) (fun k C h hk hit tk E' => by (obtain ⟨t, I, oI, oC, D, ys, m₂, hC, hx, F1, N1⟩ := hit); k_steps) (fun k C h hk _ hit tk E' => by (obtain ⟨t, I, oI, oC, D, ys, m₂, hC, hx, F1, N1⟩ := hit); k_steps) ?_); intro DL ysL hL tkL FL NL offL iL; have lenL := cnt_of iL))
              k_steps
              · (refine Stop.mk ?_; (rename Fr s.heap _ _ _ => FF); (rename News s.heap _ _ _ => NN); (have eH := exch_yes (cs := cs) (o := o) (g := g1) (x := x) (here := exch cs o g0 x x) (by assumption) (by assumption)); refine endH FF NN (by kcf_all) (by kcf_all) (congrArg (fun k => some (Value.int k _)) eH.symm) (by (intro z h1 h2; first | rfl | (simp [h1, h2]; done))))
              · (refine Stop.mk ?_; (rename Fr s.heap _ _ _ => FF); (rename News s.heap _ _ _ => NN); (have eH := exch_not (cs := cs) (o := o) (g := g1) (x := x) (here := exch cs o g0 x x) (by assumption)); refine endH FF NN (by kcf_all) (by kcf_all) (congrArg (fun k => some (Value.int k _)) eH.symm) (by (intro z h1 h2; first | rfl | (simp [h1, h2]; done))))
              · (refine Stop.mk ?_; (rename Fr s.heap _ _ _ => FF); (rename News s.heap _ _ _ => NN); (have eH := exch_no (cs := cs) (o := o) (g := g1) (x := x) (here := exch cs o g0 x x) (by assumption)); refine endH FF NN (by kcf_all) (by kcf_all) (congrArg (fun k => some (Value.int k _)) eH.symm) (by (intro z h1 h2; first | rfl | (simp [h1, h2]; done))))
          case zj2_3 =>
            intro tok gv hh tk FF NN
            exact ⟨rfl, hh, tk, (tok, gv), rfl, FF, NN⟩
        case zi2_3 =>
          intro hh tk tg FF NN
          obtain ⟨tok, gv⟩ := tg
          dsimp only at FF
          (k_with_none; (k_with "pyIter ref" => refine Stop.out ?_); (k_with "pyIter bytes" => refine Stop.out ?_); (k_with "exec While" => refine Stop.out ?_); (k_with "exec While Compare" => refine Stop.out ?_); (k_with "exec While BoolOp" => refine Stop.out ?_); (k_with "exec While Compare cons nil" => refine Stop.out ?_); (k_with "exec While Name" => refine Stop.out ?_); (k_with "InvEndN" => refine Stop.out ?_); (k_with "KswEnd" => refine Stop.out ?_))
          dsimp only
          k_steps
          (refine Stop.mk ?_; (rename Fr s.heap _ _ _ => FF); (rename News s.heap _ _ _ => NN); (try simp only [List.push_toArray] at NN); refine end1 (out := ?zo_40) (vs := ?zv_40) (n := ?zn_40) (?zp1_3) FF NN ?zE1_40 ?zE2_40 ?zE3_40 ?zE4_40 ?zE5_40 ?zE6_40; (case zE1_40 => (refine List.forall_mem_cons.mpr ⟨by k_memK, ?_⟩; intro p hp; kst_mem)); (case zE2_40 => (intro p hp; kst_mem)); (case zE3_40 => first | assumption | k_intsEnd); (case zE4_40 => kst_all); (case zE5_40 => (intro z h1 h2 h3; (try simp only [List.forall_mem_cons, List.not_mem_nil, false_implies, implies_true, and_true, ne_eq] at h2); (try simp only [List.contains_cons, List.contains_nil, Bool.or_false, Bool.or_eq_false_iff, beq_eq_false_iff_ne, ne_eq] at h3); first | rfl | (simp [kstB, h1, h2, h3]; done) | (simp [kstB, h1, h3]; done) | (simp [kstB, h1, h2]; done) | (simp [kstB, h1]; done))))
          exact ⟨hcop.step rfl (by simp), by simp only [List.length_append, List.length_singleton]; omega⟩
      · refine Stop.mk ?_; (rename Fr s.heap _ _ _ => FF); (rename News s.heap _ _ _ => NN)
        refine cut2 (τ := Tok × Option Value) FF NN (fun t m => fun y => if y = Str.ofString "group" then t.2 else if y = Str.ofString "here" then some (.int (copy1 cs o x) t.1) else m y) ?zi1_4 ?zi2_4
        case zi1_4 =>
          (k_with_none; (k_with "pyIter ref" => refine Stop.out ?_); (k_with "pyIter bytes" => refine Stop.out ?_); (k_with "exec While" => refine Stop.out ?_); (k_with "exec While Compare" => refine Stop.out ?_); (k_with "exec While BoolOp" => refine Stop.out ?_); (k_with "exec While Compare cons nil" => refine Stop.out ?_); (k_with "exec While Name" => refine Stop.out ?_); (k_with "InvEndN" => refine Stop.out ?_); (k_with "KswEnd" => refine Stop.out ?_))
          k_with "exec For Name Name cons nil" => ((rename Fr _ _ _ _ => lF9); (with_unfolding_all refine For_invVF lF9 (by exact rfl) (by exact rfl) ?_))
          k_with "compareOp In int bytes" => first
            | refine in_bytes_int hc (hr0 _ (by assumption)).1 (hr0 _ (by assumption)).2 ?_
            | refine in_bytes_int hc (hr1 _ (by assumption)).1 (hr1 _ (by assumption)).2 ?_
          k_with "call builtin:len" => (k_dflt (refine kst_len NL (by k_memK) lenL (by first | omega | (exact Int.lt_of_le_of_lt (Int.ofNat_le.mpr (cnt_le _ _)) (by decide))) ?_))
          k_with "compareOp In int ref" => first
            | refine in_tuple_ints (ns := g0) (IsTup.keeps hT0 (Fr.keep (by assumption))) hI0 ?_
            | refine in_tuple_ints (ns := g1) (IsTup.keeps hT1 (Fr.keep (by assumption))) hI1 ?_
          k_steps
          refine Stop.mk ?_; (rename Fr s.heap _ _ _ => FF); (rename News s.heap _ _ _ => NN)
          refine loopTH (its := [.ref 78, .ref 79]) (nm := Str.ofString "here") (fun i => if i = 0 then x else if i = 1 then exch cs o g0 x x else copy1 cs o x) (by decide) rfl ⟨_, X' 80 _ (by k_is), rfl, _, rfl⟩ FF NN rfl ?zj1_4 ?zj2_4
          case zj1_4 =>
            intro i v tok hh tk own2 hv hoff2 FF NN
            match i, hv with
            | 0, hv =>
              obtain rfl : v = .ref 78 := by simpa using hv.symm
              dsimp only [List.map_cons, List.map_nil, List.cons_append, List.nil_append] at hoff2 NN FF
              k_with "eval ListComp" => (k_dflt ((rename Fr s.heap _ _ _ => FC); (rename News s.heap _ _ _ => NC); (refine comp_tup (its := [.int 48 290, .int 79 291, .int 111 292]) (ks := g0) (fun k => decide (k ∈ cs)) (fun k => k) FC NC rfl hT0 hI0 (by decide) (by with_unfolding_all rfl) (by decide) (by rfl) (by decide) (by rfl) (by k_steps) (fun _ => rfl) (fun k C h hk hit tk E' => by (obtain ⟨t, I, oI, oC, D, ys, m₂, hC, hx, F1, N1⟩ := hit); k_steps) (fun k C h hk _ hit tk E' => by (obtain ⟨t, I, oI, oC, D, ys, m₂, hC, hx, F1, N1⟩ := hit); k_steps) ?_); intro DL ysL hL tkL FL NL offL iL; have lenL := cnt_of iL))
              k_steps
              · (refine Stop.mk ?_; (rename Fr s.heap _ _ _ => FF); (rename News s.heap _ _ _ => NN); (have eH := exch_yes (cs := cs) (o := o) (g := g0) (x := x) (here := x) (by assumption) (by assumption)); refine endH FF NN (by kcf_all) (by kcf_all) (congrArg (fun k => some (Value.int k _)) eH.symm) (by (intro z h1 h2; first | rfl | (simp [h1, h2]; done))))
              · (refine Stop.mk ?_; (rename Fr s.heap _ _ _ => FF); (rename News s.heap _ _ _ => NN); (have eH := exch_not (cs := cs) (o := o) (g := g0) (x := x) (here := x) (by assumption)); refine endH FF NN (by kcf_all) (by kcf_all) (congrArg (fun k => some (Value.int k _)) eH.symm) (by (intro z h1 h2; first | rfl | (simp [h1, h2]; done))))
              · (refine Stop.mk ?_; (rename Fr s.heap _ _ _ => FF); (rename News s.heap _ _ _ => NN); (have eH := exch_no (cs := cs) (o := o) (g := g0) (x := x) (here := x) (by assumption)); refine endH FF NN (by kcf_all) (by kcf_all) (congrArg (fun k => some (Value.int k _)) eH.symm) (by (intro z h1 h2; first | rfl | (simp [h1, h2]; done))))
            | 1, hv =>
              obtain rfl : v = .ref 79 := by simpa using hv.symm
              dsimp only [List.map_cons, List.map_nil, List.cons_append, List.nil_append] at hoff2 NN FF
              k_with "eval ListComp" => (k_dflt ((rename Fr s.heap _ _ _ => FC); (rename News s.heap _ _ _ => NC); (refine comp_tup (its := [.int 73 293, .int 108 294, .int 49 295]) (ks := g1) (fun k => decide (k ∈ cs)) (fun k => k) FC NC rfl hT1 hI1 (by decide) (by with_unfolding_all rfl) (by decide) (by rfl) (by decide) (by rfl) (by k_steps) (fun _ => rfl) (fun k C h hk hit tk E' => by (obtain ⟨t, I, oI, oC, D, ys, m₂, hC, hx, F1, N1⟩ := hit); k_steps) (fun k C h hk _ hit tk E' => by (obtain ⟨t, I, oI, oC, D, ys, m₂, hC, hx, F1, N1⟩ := hit); k_steps) ?_); intro DL ysL hL tkL FL NL offL iL; have lenL := cnt_of iL))
              k_steps
              · (refine Stop.mk ?_; (rename Fr s.heap _ _ _ => FF); (rename News s.heap _ _ _ => NN); (have eH := exch_yes (cs := cs) (o := o) (g := g1) (x := x) (here := exch cs o g0 x x) (by assumption) (by assumption)); refine endH FF NN (by kcf_all) (by kcf_all) (congrArg (fun k => some (Value.int k _)) eH.symm) (by (intro z h1 h2; first | rfl | (simp [h1, h2]; done))))
              · (refine Stop.mk ?_; (rename Fr s.heap _ _ _ => FF); (rename News s.heap _ _ _ => NN); (have eH := exch_not (cs := cs) (o := o) (g := g1) (x := x) (here := exch cs o g0 x x) (by assumption)); refine endH FF NN (by kcf_all) (by kcf_all) (congrArg (fun k => some (Value.int k _)) eH.symm) (by (intro z h1 h2; first | rfl | (simp [h1, h2]; done))))
              · (refine Stop.mk ?_; (rename Fr s.heap _ _ _ => FF); (rename News s.heap _ _ _ => NN); (have eH := exch_no (cs := cs) (o := o) (g := g1) (x := x) (here := exch cs o g0 x x) (by assumption)); refine endH FF NN (by kcf_all) (by kcf_all) (congrArg (fun k => some (Value.int k _)) eH.symm) (by (intro z h1 h2; first | rfl | (simp [h1, h2]; done))))
          case zj2_4 =>
            intro tok gv hh tk FF NN
            exact ⟨rfl, hh, tk, (tok, gv), rfl, FF, NN⟩
        case zi2_4 =>
          intro hh tk tg FF NN
          obtain ⟨tok, gv⟩ := tg
          dsimp only at FF
          (k_with_none; (k_with "pyIter ref" => refine Stop.out ?_); (k_with "pyIter bytes" => refine Stop.out ?_); (k_with "exec While" => refine Stop.out ?_); (k_with "exec While Compare" => refine Stop.out ?_); (k_with "exec While BoolOp" => refine Stop.out ?_); (k_with "exec While Compare cons nil" => refine Stop.out ?_); (k_with "exec While Name" => refine Stop.out ?_); (k_with "InvEndN" => refine Stop.out ?_); (k_with "KswEnd" => refine Stop.out ?_))
          dsimp only
          k_steps
          (refine Stop.mk ?_; (rename Fr s.heap _ _ _ => FF); (rename News s.heap _ _ _ => NN); (try simp only [List.push_toArray] at NN); refine end1 (out := ?zo_52) (vs := ?zv_52) (n := ?zn_52) (?zp1_4) FF NN ?zE1_52 ?zE2_52 ?zE3_52 ?zE4_52 ?zE5_52 ?zE6_52; (case zE1_52 => (refine List.forall_mem_cons.mpr ⟨by k_memK, ?_⟩; intro p hp; kst_mem)); (case zE2_52 => (intro p hp; kst_mem)); (case zE3_52 => first | assumption | k_intsEnd); (case zE4_52 => kst_all); (case zE5_52 => (intro z h1 h2 h3; (try simp only [List.forall_mem_cons, List.not_mem_nil, false_implies, implies_true, and_true, ne_eq] at h2); (try simp only [List.contains_cons, List.contains_nil, Bool.or_false, Bool.or_eq_false_iff, beq_eq_false_iff_ne, ne_eq] at h3); first | rfl | (simp [kstB, h1, h2, h3]; done) | (simp [kstB, h1, h3]; done) | (simp [kstB, h1, h2]; done) | (simp [kstB, h1]; done))))
          exact ⟨hcop.step rfl (by simp), by simp only [List.length_append, List.length_singleton]; omega⟩
  case zq6 =>
    clear FF NN
    intro out ovs oc f u h tk hfacts hp FF NN
    obtain ⟨hcop, hol⟩ := hp
    (k_with_none; (k_with "pyIter ref" => refine Stop.out ?_); (k_with "pyIter bytes" => refine Stop.out ?_); (k_with "exec While" => refine Stop.out ?_); (k_with "exec While Compare" => refine Stop.out ?_); (k_with "exec While BoolOp" => refine Stop.out ?_); (k_with "exec While Compare cons nil" => refine Stop.out ?_); (k_with "exec While Name" => refine Stop.out ?_); (k_with "InvEndN" => refine Stop.out ?_); (k_with "KswEnd" => refine Stop.out ?_))
    dsimp only
    have hkin : KBa.In ks := fun x hx => KBw.ints_in (hk ▸ hx)
    have ho : out = (copied cs o ks).2 := by rw [hcop.eq]
    have hinO : KBa.In out := ho ▸ copied_in cs o hkin
    (k_steps; all_goals (repeat (first | (k_unfold; try dsimp only) | dsimp only)))
    refine fin_bytes hret (Fr.keep (by assumption)) ?_
    rw [KBa.ints_make (by assumption)]
    exact ho

end
/-! F6 -/
section
local macro_rules | `(tactic| walk_at $s:str) => `(tactic| k_extra $s)
set_option maxHeartbeats 8000000 in
theorem scrub_spec (b : Array UInt8) (ks : List Int) (t : Tok) (hk : KBw.bInts b = ks) : Spec 21 1 8 [.bytes b t] [] (fun _ => True) (PBytes ks) := by
  intro prog w mean mg mb A env outer A₀ base h₀ L m s Q E B F X T hhd hA hf hke hd hu hpre hret
  obtain ⟨hdl, dp, fr, gd, un⟩ := A
  dsimp only at hhd hA hd hu hpre
  subst hhd hA
  refine wpAny_call ?_
  k_dflt (refine' enterP ?k1 ?k2 ?k3 ?k5 ?kA ?kF ?kK ?k6 ?k7 ?k8 ?k9 ?kB ?_ ?c2 ?c3 ?c4 ?c5; (case kA => exact rfl); (case kF => assumption); (case kK => assumption); (case k1 => k_asm); (case k2 => k_asm); (case k3 => k_asm);  (case k5 => k_asm); (case k6 => k_is); (case k7 => k_is); (case k8 => (try dsimp only); omega); (case k9 => first | exact BindsTo.of_eq rfl | exact binds_K (by k_in) rfl (by k_is) rfl rfl rfl | (refine' kp_binds ?kx ?ke; (case kx => k_in); (case ke => exact fun _ => rfl))); (case c5 => decide); (case kB => exact locs rfl); (case c2 => exact rfl); (case c3 => exact rfl); (case c4 => exact rfl); k_whole; intro L' h' F' N' B' X' T'; (try dsimp only); (try k_lift B'); (try k_fold))
  (k_with_none; (k_with "pyIter ref" => refine Stop.out ?_); (k_with "pyIter bytes" => refine Stop.out ?_); (k_with "exec While" => refine Stop.out ?_); (k_with "exec While Compare" => refine Stop.out ?_); (k_with "exec While BoolOp" => refine Stop.out ?_); (k_with "exec While Compare cons nil" => refine Stop.out ?_); (k_with "exec While Name" => refine Stop.out ?_); (k_with "InvEndN" => refine Stop.out ?_); (k_with "KswEnd" => refine Stop.out ?_))
  (k_steps; all_goals (repeat (first | (k_unfold; try dsimp only) | dsimp only)))
  exact fin_bytes hret (Fr.keep (by assumption)) hk
set_option maxHeartbeats 8000000 in
theorem encint_spec (c : Array UInt8) (cs : List Int) (t t1 : Tok) (i : Int) (hc : KBw.bInts c = cs) (hb : cs.length ≤ 60) (hb3 : 2 ≤ cs.length) (hi : 0 ≤ i) (hi2 : i < 2 ^ 256) :
    Spec 29 1 8 [.int i t1] [("default_one", .bool false), ("alphabet", .bytes c t)] (fun _ => True) (PBytes ((digs cs.length i).reverse.map fun k => cs.getD k.toNat 0)) := by
  intro prog w mean mg mb A env outer A₀ base h₀ L m s Q E B F X T hhd hA hf hke hd hu hpre hret
  obtain ⟨hdl, dp, fr, gd, un⟩ := A
  dsimp only at hhd hA hd hu hpre
  subst hhd hA
  refine wpAny_call ?_
  k_dflt (refine' enterP ?k1 ?k2 ?k3 ?k5 ?kA ?kF ?kK ?k6 ?k7 ?k8 ?k9 ?kB ?_ ?c2 ?c3 ?c4 ?c5; (case kA => exact rfl); (case kF => assumption); (case kK => assumption); (case k1 => k_asm); (case k2 => k_asm); (case k3 => k_asm);  (case k5 => k_asm); (case k6 => k_is); (case k7 => k_is); (case k8 => (try dsimp only); omega); (case k9 => first | exact BindsTo.of_eq rfl | exact binds_K (by k_in) rfl (by k_is) rfl rfl rfl | (refine' kp_binds ?kx ?ke; (case kx => k_in); (case ke => exact fun _ => rfl))); (case c5 => decide); (case kB => exact locs rfl); (case c2 => exact rfl); (case c3 => exact rfl); (case c4 => exact rfl); k_whole; intro L' h' F' N' B' X' T'; (try dsimp only); (try k_lift B'); (try k_fold))
  (k_with_none; (k_with "pyIter ref" => refine Stop.out ?_); (k_with "pyIter bytes" => refine Stop.out ?_); (k_with "exec While" => refine Stop.out ?_); (k_with "exec While Compare" => refine Stop.out ?_); (k_with "exec While BoolOp" => refine Stop.out ?_); (k_with "exec While Compare cons nil" => refine Stop.out ?_); (k_with "exec While Name" => refine Stop.out ?_); (k_with "InvEndN" => refine Stop.out ?_); (k_with "KswEnd" => refine Stop.out ?_))
  k_steps
  · refine Stop.mk ?_; (rename Fr s.heap _ _ _ => FF); (rename News s.heap _ _ _ => NN)
    refine ksw_while (σ := (Int × Tok) × (Array UInt8 × Tok × List Int)) (fun _ => []) (fun c => [(Str.ofString "i", .int c.1.1 c.1.2), (Str.ofString "string", .bytes c.2.1 c.2.2.1)]) (fun c => KBw.bInts c.2.1 = c.2.2.2) [Str.ofString "idx"] (fun c => EncI cs i c.1.1 c.2.2.2 ∧ c.2.2.2.length ≤ 300) (fun c => c.1.1.toNat) ((i, t1), (#[], _, [])) FF NN rfl (by kst_all) ⟨⟨hi, Int.le_refl _, by simp⟩, by simp⟩ ?_ (by passes_own)
    clear FF NN
    intro c u hh tk hf hp FF NN
    obtain ⟨⟨j, tj⟩, sb, ts, so⟩ := c
    obtain ⟨hE, hl⟩ := hp
    dsimp only at hf hE hl FF NN
    have hj0 := hE.lo
    have hj1 := hE.hi
    k_steps
    · have hm : 0 ≤ j.fmod cs.length ∧ j.fmod cs.length < (cs.length : Int) := by
        rw [Int.fmod_eq_emod_of_nonneg _ (by omega)]
        exact ⟨Int.emod_nonneg _ (by omega), Int.emod_lt_of_pos _ (by omega)⟩
      rename KBw.bInts (_ ++ _) = _ => kApp
      rw [slice1 hm.1 hm.2] at kApp
      obtain ⟨st1, st2⟩ := hE.step hb3 (by assumption)
      (refine Stop.mk ?_; (rename Fr s.heap _ _ _ => FF); (rename News s.heap _ _ _ => NN); refine ksw_end (((?zi1_1, ?zi2_1), (?zi3_1, ?zi4_1, ?zi5_1))) FF NN ?zE1_11 ?zE3_11 ?zE4_11 ?zE5_11 ?zE6_11 ?zE7_11; (case zE1_11 => (intro p hp; nomatch hp)); (case zE3_11 => assumption); (case zE4_11 => kst_all); (case zE5_11 => (intro z h2 h3; (try simp only [List.forall_mem_cons, List.not_mem_nil, false_implies, implies_true, and_true, ne_eq] at h2); (try simp only [List.contains_cons, List.contains_nil, Bool.or_false, Bool.or_eq_false_iff, beq_eq_false_iff_ne, ne_eq] at h3); first | rfl | (simp [kstB, h2, h3]; done) | (simp [kstB, h3]; done) | (simp [kstB, h2]; done) | (simp [kstB]; done))))
      · exact ⟨st1, Nat.le_trans (st1.len hb3 hi2) (by decide)⟩
      · exact st2
    · (repeat (first | (k_unfold; try dsimp only) | dsimp only))
      refine fin_bytes hret (Fr.keep (by assumption)) ?_
      rw [hf]
      exact hE.done (by assumption)
  · refine Stop.mk ?_; (rename Fr s.heap _ _ _ => FF); (rename News s.heap _ _ _ => NN)
    refine ksw_while (σ := (Int × Tok) × (Array UInt8 × Tok × List Int)) (fun _ => []) (fun c => [(Str.ofString "i", .int c.1.1 c.1.2), (Str.ofString "string", .bytes c.2.1 c.2.2.1)]) (fun c => KBw.bInts c.2.1 = c.2.2.2) [Str.ofString "idx"] (fun c => EncI cs i c.1.1 c.2.2.2 ∧ c.2.2.2.length ≤ 300) (fun c => c.1.1.toNat) ((i, t1), (#[], _, [])) FF NN rfl (by kst_all) ⟨⟨hi, Int.le_refl _, by simp⟩, by simp⟩ ?_ (by passes_own)
    clear FF NN
    intro c u hh tk hf hp FF NN
    obtain ⟨⟨j, tj⟩, sb, ts, so⟩ := c
    obtain ⟨hE, hl⟩ := hp
    dsimp only at hf hE hl FF NN
    have hj0 := hE.lo
    have hj1 := hE.hi
    k_steps
    · have hm : 0 ≤ j.fmod cs.length ∧ j.fmod cs.length < (cs.length : Int) := by
        rw [Int.fmod_eq_emod_of_nonneg _ (by omega)]
        exact ⟨Int.emod_nonneg _ (by omega), Int.emod_lt_of_pos _ (by omega)⟩
      rename KBw.bInts (_ ++ _) = _ => kApp
      rw [slice1 hm.1 hm.2] at kApp
      obtain ⟨st1, st2⟩ := hE.step hb3 (by assumption)
      (refine Stop.mk ?_; (rename Fr s.heap _ _ _ => FF); (rename News s.heap _ _ _ => NN); refine ksw_end (((?zi1_2, ?zi2_2), (?zi3_2, ?zi4_2, ?zi5_2))) FF NN ?zE1_14 ?zE3_14 ?zE4_14 ?zE5_14 ?zE6_14 ?zE7_14; (case zE1_14 => (intro p hp; nomatch hp)); (case zE3_14 => assumption); (case zE4_14 => kst_all); (case zE5_14 => (intro z h2 h3; (try simp only [List.forall_mem_cons, List.not_mem_nil, false_implies, implies_true, and_true, ne_eq] at h2); (try simp only [List.contains_cons, List.contains_nil, Bool.or_false, Bool.or_eq_false_iff, beq_eq_false_iff_ne, ne_eq] at h3); first | rfl | (simp [kstB, h2, h3]; done) | (simp [kstB, h3]; done) | (simp [kstB, h2]; done) | (simp [kstB]; done))))
      · exact ⟨st1, Nat.le_trans (st1.len hb3 hi2) (by decide)⟩
      · exact st2
    · (repeat (first | (k_unfold; try dsimp only) | dsimp only))
      refine fin_bytes hret (Fr.keep (by assumption)) ?_
      rw [hf]
      exact hE.done (by assumption)

end
/-! Rules4 -/
section
/- --pure -/
theorem slot_lstrip : Slot "bytes" "lstrip" "bytes.lstrip" :=
  .of (owner := "bytes") (n := "lstrip") (by rw [typeLookup_type, builtinLookup_eq_fast]; kernel_rfl) (by decide +kernel) (by decide +kernel) (by decide +kernel)
    (by first | exact .inl (by decide +kernel) | exact .inr (by decide +kernel)) (by rw [isSubtype_type]; kernel_rfl)
theorem type_lstrip : typeOf (.builtin "bytes.lstrip") = pure (.type "method_descriptor") := by
  show builtinType _ = _
  rw [builtinType_eq_fast]
  kernel_rfl
theorem entry_lstrip : entryFor table "bytes.lstrip" = some Builtin.«bytes.lstrip» := entryFor_of_tree (by kernel_rfl)
theorem args_lstrip (a b : Value) : argsOk "bytes.lstrip" ⟨[a, b], []⟩ := by
  unfold argsOk
  rw [signature?_of (id := "bytes.lstrip") (n := ['p', 'i', 'r', 't', 's', 'l']) (o := ['s', 'e', 't', 'y', 'b']) (by kernel_rfl) FB.owner_bytes]
  kernel_rfl
theorem slot_rstrip : Slot "bytes" "rstrip" "bytes.rstrip" :=
  .of (owner := "bytes") (n := "rstrip") (by rw [typeLookup_type, builtinLookup_eq_fast]; kernel_rfl) (by decide +kernel) (by decide +kernel) (by decide +kernel)
    (by first | exact .inl (by decide +kernel) | exact .inr (by decide +kernel)) (by rw [isSubtype_type]; kernel_rfl)
theorem type_rstrip : typeOf (.builtin "bytes.rstrip") = pure (.type "method_descriptor") := by
  show builtinType _ = _
  rw [builtinType_eq_fast]
  kernel_rfl
theorem entry_rstrip : entryFor table "bytes.rstrip" = some Builtin.«bytes.rstrip» := entryFor_of_tree (by kernel_rfl)
theorem args_rstrip (a : Value) : argsOk "bytes.rstrip" ⟨[a], []⟩ := by
  unfold argsOk
  rw [signature?_of (id := "bytes.rstrip") (n := ['p', 'i', 'r', 't', 's', 'r']) (o := ['s', 'e', 't', 'y', 'b']) (by kernel_rfl) FB.owner_bytes]
  kernel_rfl
section
variable {prog : Program} {w : World} {M : Model} {A : Around} {E : Value → Shared → Prop} {s : Shared}
theorem method_lstrip {b : Array UInt8} {t : Tok} {pl : Sem Bool} {Q : Value × List Value → Shared → Prop} (h : Q (.builtin "bytes.lstrip", [.bytes b t]) s) : wpAny M A (getMethod (.bytes b t) "lstrip" pl) Q E s := by
  with_reducible exact KBd.method_of (.bytes b t) (typeIs_bytes _ _ _) slot_lstrip type_lstrip KBd.noRef h
theorem method_rstrip {b : Array UInt8} {t : Tok} {pl : Sem Bool} {Q : Value × List Value → Shared → Prop} (h : Q (.builtin "bytes.rstrip", [.bytes b t]) s) : wpAny M A (getMethod (.bytes b t) "rstrip" pl) Q E s := by
  with_reducible exact KBd.method_of (.bytes b t) (typeIs_bytes _ _ _) slot_rstrip type_rstrip KBd.noRef h
theorem strip_end {b : Array UInt8} {t : Tok} {kept : List UInt8} {tag : String} {Q : Value → Shared → Prop} (hsz : b.size ≤ 16777216) (hs : kept.Sublist b.toList)
    (h : ∀ t' k, Q (.bytes kept.toArray t') { s with toks := k }) :
    wpAny (model prog w) A (if (kept.length == b.size) = true then do rule tag; ret (← PySem.Builtin.Bytes.Kind.bytes.same (.bytes b t)) else do ret (← PySem.Builtin.Bytes.Kind.bytes.new kept.toArray)) (fun fin s' => ∃ v, fin = Fin.done (Flow.ret v) ∧ Q v s') E s := by
  by_cases hk : kept.length = b.size
  · have e : kept.toArray = b := by
      have := hs.eq_of_length (by simpa using hk)
      rw [this]
    rw [if_pos (by simpa using hk)]
    refine wpAny_bind (wpAny_rule ?_)
    show wpAny _ _ ((do if (← typeOf (.bytes b t)) == .type "bytes" then return (Value.bytes b t)
                        PySem.Builtin.Bytes.Kind.bytes.new (← PySem.Builtin.Bytes.payload (.bytes b t))) >>= fun r => ret r) _ _ s
    refine wpAny_bind (wpAny_bind (wpAny_typeOf (typeIs_bytes s b t) ?_))
    have := h t s.toks
    rw [e] at this
    exact wpAny_pure (wpAny_pure ⟨_, rfl, this⟩)
  · rw [if_neg (by simpa using hk)]
    refine wpAny_bind ?_
    show wpAny _ _ (mkBytes kept.toArray) _ _ s
    refine wpAny_mkBytes (wpAny_pure ⟨_, rfl, h _ _⟩) ?_
    rw [sizeLine_eq, List.size_toArray]
    exact Nat.le_trans hs.length_le (by simpa using hsz)
theorem lstrip_bytes {b p : Array UInt8} {t u : Tok} {Q : Value → Shared → Prop} (hsz : b.size ≤ 16777216)
    (h : ∀ t' k, Q (.bytes (b.toList.dropWhile p.contains).toArray t') { s with toks := k }) : wpAny (model prog w) A (call (.builtin "bytes.lstrip") [.bytes b t, .bytes p u]) Q E s := by
  refine wpAny_call_entry slot_lstrip (typeIs_bytes s b t) entry_lstrip ?_ (args_lstrip _ _)
  show wpAny _ _ (PySem.Builtin.Bytes.bytesLike "bytes.lstrip" (.bytes p u) >>= fun r => _) _ _ s
  refine wpAny_bind (wpAny_of_eq KBd.like_eq ?_)
  show wpAny _ _ (PySem.Builtin.Bytes.payload (.bytes b t) >>= fun r => _) _ _ s
  refine wpAny_bind (wpAny_of_eq (a := b) rfl ?_)
  simp only [if_true, Bool.false_eq_true, if_false]
  exact strip_end hsz (List.dropWhile_sublist _) h
theorem rstrip_bytes {b : Array UInt8} {t : Tok} {Q : Value → Shared → Prop} (hsz : b.size ≤ 16777216)
    (h : ∀ t' k, Q (.bytes (b.toList.reverse.dropWhile PySem.Builtin.Bytes.isSpace).reverse.toArray t') { s with toks := k }) : wpAny (model prog w) A (call (.builtin "bytes.rstrip") [.bytes b t]) Q E s := by
  refine wpAny_call_entry slot_rstrip (typeIs_bytes s b t) entry_rstrip ?_ (args_rstrip _)
  show wpAny _ _ (PySem.Builtin.Bytes.payload (.bytes b t) >>= fun r => _) _ _ s
  refine wpAny_bind (wpAny_of_eq (a := b) rfl ?_)
  simp only [if_true, Bool.false_eq_true, if_false]
  refine strip_end hsz ?_ h
  have := (List.dropWhile_sublist (l := b.toList.reverse) PySem.Builtin.Bytes.isSpace).reverse
  rwa [List.reverse_reverse] at this
end
/-- a white octet -/
noncomputable def white (x : Int) : Bool := decide (x = 32) || (decide (9 ≤ x) && decide (x ≤ 13))
noncomputable def rstripL (ks : List Int) : List Int := (ks.reverse.dropWhile white).reverse
theorem ints_drop {b : Array UInt8} {ks : List Int} (hb : KBw.bInts b = ks) {q : UInt8 → Bool} {r : Int → Bool} (h : ∀ c : UInt8, q c = r (c.toNat : Int)) : KBw.bInts (b.toList.dropWhile q).toArray = ks.dropWhile r := by
  subst hb
  unfold KBw.bInts
  rw [List.toList_toArray, List.dropWhile_map]
  congr 2
  funext c
  exact h c
theorem ints_rdrop {b : Array UInt8} {ks : List Int} (hb : KBw.bInts b = ks) {q : UInt8 → Bool} {r : Int → Bool} (h : ∀ c : UInt8, q c = r (c.toNat : Int)) : KBw.bInts (b.toList.reverse.dropWhile q).reverse.toArray = (ks.reverse.dropWhile r).reverse := by
  subst hb
  unfold KBw.bInts
  rw [List.toList_toArray, ← List.map_reverse, List.dropWhile_map, List.map_reverse]
  congr 3
  funext c
  exact h c
theorem isSpace_white (c : UInt8) : PySem.Builtin.Bytes.isSpace c = white (c.toNat : Int) := by
  have key : ∀ n : Fin 256, PySem.Builtin.Bytes.isSpace (UInt8.ofNat n.val) = white (n.val : Int) := by decide +kernel
  have := key ⟨c.toNat, c.toNat_lt⟩
  rwa [UInt8.ofNat_toNat] at this
theorem one_contains {p : Array UInt8} {x : Int} (hp : KBw.bInts p = [x]) (c : UInt8) : p.contains c = decide ((c.toNat : Int) = x) := by
  have h := bytes_has hp (x := (c.toNat : Int)) (by omega) (by have := c.toNat_lt; omega)
  rw [Int.toNat_natCast] at h
  have e : (c.toNat).toUInt8 = c := UInt8.ofNat_toNat
  rw [e] at h
  rw [h]
  simp
section
variable {prog : Program} {w : World} {A : Around} {E : Value → Shared → Prop} {s : Shared}
theorem lstrip_K {b p : Array UInt8} {t u : Tok} {ks : List Int} {x : Int} {Q : Value → Shared → Prop} (hb : KBw.bInts b = ks) (hp : KBw.bInts p = [x]) (hsz : ks.length ≤ 16777216)
    (h : ∀ b' t' k, KBw.bInts b' = ks.dropWhile (fun y => decide (y = x)) → Q (.bytes b' t') { s with toks := k }) : wpAny (model prog w) A (call (.builtin "bytes.lstrip") [.bytes b t, .bytes p u]) Q E s :=
  lstrip_bytes (by rw [← KBw.ints_length, hb]; exact hsz) fun t' k => h _ t' k (ints_drop hb (one_contains hp))
theorem rstrip_K {b : Array UInt8} {t : Tok} {ks : List Int} {Q : Value → Shared → Prop} (hb : KBw.bInts b = ks) (hsz : ks.length ≤ 16777216)
    (h : ∀ b' t' k, KBw.bInts b' = rstripL ks → Q (.bytes b' t') { s with toks := k }) : wpAny (model prog w) A (call (.builtin "bytes.rstrip") [.bytes b t]) Q E s :=
  rstrip_bytes (by rw [← KBw.ints_length, hb]; exact hsz) fun t' k => h _ t' k (ints_rdrop hb isSpace_white)
end

end
/-! Rules5 -/
section
/- --pure -/
section
variable {prog : Program} {w : World} {M : Model} {A : Around} {E : Value → Shared → Prop} {s : Shared} {env : Env}
/-- a bound built-in is called with keywords -/
theorem callWith_boundKw {pos : Pos} {u : Addr} {e : Expr} {rest : List Expr} {kws : List Keyword} {Q : Value → Shared → Prop} {h₀ : Heap} {L : Addr} {news : List (Addr × Obj)} (_N : News h₀ L s.heap news) (_hm : (u, KFB.bound) ∈ news)
    (h : wpAny M A (spliced (backTo pos (starEach (e :: rest) env))) (fun vs s₁ => wpAny M A (evalAll ((backToKw pos (keywordEach kws env)).map (·.2)))
      (fun kvs s₂ => KFB.StandsAt u s₂.heap ∧ wpAny M A (call (.ref u) vs (((backToKw pos (keywordEach kws env)).filterMap (·.1)).zip kvs)) Q E s₂) E s₁) E s)
    (he : backTo pos (starEach (e :: rest) env) = (false, eval e env) :: backTo pos (starEach rest env) := by rfl)
    (hplain : (backTo pos (starEach (e :: rest) env)).any (·.1) = false := by rfl)
    (hall : (backToKw pos (keywordEach kws env)).all (·.1.isSome) = true := by rfl)
    (hkw : (backToKw pos (keywordEach kws env)).any (·.1.isNone) = false := by rfl) :
    wpAny M A (callWith pos (.ref u) [] (backTo pos (starEach (e :: rest) env)) (backToKw pos (keywordEach kws env))) Q E s := by
  unfold callWith
  have ha : wpAny M A (evalArgs (.ref u) true (backTo pos (starEach (e :: rest) env)) (backToKw pos (keywordEach kws env)))
      (fun x s₂ => KFB.StandsAt u s₂.heap ∧ wpAny M A (call (.ref u) x.pos x.kw) Q E s₂) E s := by
    rw [he] at h ⊢
    exact evalArgs_kwB hall h
  refine wpAny_bind (wpAny_holding (wpAny_mono ha (fun x s₁ h₁ => wpAny_bind (wpAny_standAt ?_)) fun _ _ x => x))
  obtain ⟨ho, hcall⟩ := h₁
  simp only [hplain, hkw, Bool.or_false]
  refine wpAny_bind (m := keeperOf (.ref u)) ?_
  unfold keeperOf
  refine wpAny_bind (wpAny_load ho ?_)
  simp only [KFB.bound, show (Value.type "builtin_function_or_method" != Value.type "method") = true by decide, show (Value.type "builtin_function_or_method" == Value.type "builtin_function_or_method" || Value.type "builtin_function_or_method" == Value.type "method-wrapper") = true by decide, if_true]
  refine wpAny_pure ?_
  exact wpAny_bind (wpAny_mono hcall (fun r s₂ hr => wpAny_bind (wpAny_holding (wpAny_point (wpAny_pure hr)))) fun _ _ x => x)
theorem grown_big {n : Nat} {Q : Value → Shared → Prop} (hn : n < 2 ^ 256) (h : Q (.int (n : Int) s.toks) { s with toks := s.toks + 1 }) : wpAny M A (mkIntGrown (n : Int)) Q E s := by
  unfold mkIntGrown
  have hl : ¬ ((n : Int).natAbs.log2 ≥ bitsLine) := by
    rw [Int.natAbs_natCast]
    have hb : bitsLine = 134217728 := by first | rfl | decide
    by_cases hz : n = 0
    · subst hz
      rw [hb]
      decide
    · have h1 := (Nat.log2_lt hz).mpr hn
      omega
  rw [if_neg hl]
  exact wpAny_mkInt h
theorem tree_kw {b : Array UInt8} {t u : Tok} {P : Fin → Shared → Prop} (hl : b.size ≤ 16) (h : P (.done (.ret (.int (val 256 (KBw.bInts b)) s.toks))) { s with toks := s.toks + 1 }) :
    wpAny M A (Builtin.«int.from_bytes» ⟨[.type "int", .bytes b t], [("byteorder", .str (PySem.Str.ofString "big") u)]⟩) P E s := by
  have hv : ((b.toList.foldl (fun (acc : Nat) (b : UInt8) => acc * 256 + b.toNat) 0 : Nat) : Int) = val 256 (KBw.bInts b) := KFB.fold_cast b.toList 0
  have hn : b.toList.foldl (fun (acc : Nat) (b : UInt8) => acc * 256 + b.toNat) 0 < 2 ^ 256 := by
    have h1 := KFB.fold_lt b.toList 0
    rw [Nat.zero_add, Nat.one_mul, Array.length_toList] at h1
    have h2 : 256 ^ b.size ≤ 256 ^ 16 := Nat.pow_le_pow_right (by decide) hl
    have h3 : (256 : Nat) ^ 16 ≤ 2 ^ 256 := by decide
    omega
  unfold Builtin.«int.from_bytes»
  refine wpAny_bind (wpAny_of_eq (a := true) KFB.type_int ?_)
  refine KFB.if_not rfl ?_
  refine wpAny_bind (wpAny_of_eq (a := true) F.conv_sub_int ?_)
  refine KFB.if_not rfl ?_
  refine wpAny_bind (wpAny_of_eq (a := [some (.bytes b t), some (.str (PySem.Str.ofString "big") u), none]) (by kernel_rfl) ?_)
  refine wpAny_bind (wpAny_of_eq (a := PySem.Str.ofString "big") (by kernel_rfl) ?_)
  refine wpAny_bind (wpAny_of_eq (a := false) rfl ?_)
  refine wpAny_bind (wpAny_of_eq (a := false) (by kernel_rfl) ?_)
  refine wpAny_bind (wpAny_of_eq (a := b) rfl ?_)
  show wpAny _ _ (mkIntGrown (b.toList.foldl (fun (acc : Int) (b : UInt8) => acc * 256 + (b.toNat : Int)) ((0 : Nat) : Int)) >>= fun v => _) _ _ _
  rw [KFB.foldI_eq]
  refine wpAny_bind (grown_big hn ?_)
  rw [hv]
  refine KFB.if_so (by decide +kernel) ?_
  exact wpAny_bind (wpAny_pure (wpAny_pure h))
theorem check_kw {b : Array UInt8} {t u : Tok} {o : PySem.Str} : checkBoundCall "int.from_bytes" ⟨[.type "int", .bytes b t], [("byteorder", .str o u)]⟩ = pure () := by first | kernel_rfl | rfl
theorem from_kw {x : Addr} {b : Array UInt8} {t u : Tok} {ks : List Int} {Q : Value → Shared → Prop} {h₀ : Heap} {L : Addr} {news : List (Addr × Obj)} (N : News h₀ L s.heap news) (hm : (x, KFB.bound) ∈ news) (hb : KBw.bInts b = ks) (hl : ks.length ≤ 16)
    (h : ∀ t' k, Q (.int (val 256 ks) t') { s with toks := k }) : wpAny (model prog w) A (call (.ref x) [.bytes b t] [("byteorder", .str (PySem.Str.ofString "big") u)]) Q E s := by
  subst hb
  have ho := KFB.at_of N hm
  refine wpAny_call (codeAny_of_tree ?_)
  show wpAny _ A.in1 (callAny (.ref x) ⟨[.bytes b t], [("byteorder", .str (PySem.Str.ofString "big") u)]⟩) _ _ s
  simp only [callAny]
  refine wpAny_bind (wpAny_load ho ?_)
  simp only [KFB.bound, show (Value.type "builtin_function_or_method" == Value.type "method" || Value.type "builtin_function_or_method" == Value.type "builtin_function_or_method" || Value.type "builtin_function_or_method" == Value.type "method-wrapper") = true by decide, if_true]
  refine KFB.if_so (by decide) ?_
  refine wpAny_bind (wpAny_of_eq (a := ()) check_kw ?_)
  refine wpAny_bind (wpAny_pure (wpAny_pure ?_))
  exact ⟨KFB.quiet_fb, codeAny_builtin KFB.entry_fb (tree_kw (by rw [← KBw.ints_length]; exact hl) (h _ _))⟩
theorem one_byte {b : Array UInt8} {x : Int} (hb : KBw.bInts b = [x]) : ∃ c : UInt8, b = [c].toArray ∧ (c.toNat : Int) = x := by
  obtain ⟨l⟩ := b
  cases l with
  | nil => cases hb
  | cons c r =>
    cases r with
    | nil => exact ⟨c, rfl, (List.cons.inj hb).1⟩
    | cons d r => exact nomatch (List.cons.inj hb).2
theorem ints_flat (c : UInt8) : ∀ n : Nat, KBw.bInts ((List.replicate n [c]).flatten).toArray = List.replicate n (c.toNat : Int)
  | 0 => rfl
  | n + 1 => by
    have := ints_flat c n
    rw [KBw.ints_list] at this ⊢
    rw [List.replicate_succ, List.flatten_cons, List.map_append, this, List.replicate_succ]
    rfl
theorem mul_byte {b : Array UInt8} {x n : Int} {t u : Tok} {Q : Value → Shared → Prop} (hb : KBw.bInts b = [x]) (h0 : 0 ≤ n) (h1 : n ≤ 64)
    (h : ∀ b' t' k, KBw.bInts b' = List.replicate n.toNat x → Q (.bytes b' t') { s with toks := k }) : wpAny (model prog w) A (binaryOp .Mult (.bytes b t) (.int n u)) Q E s := by
  obtain ⟨c, rfl, rfl⟩ := one_byte hb
  refine bytes_mul_any (List.cons_ne_nil _ _) (by omega) (by omega) (Nat.le_of_ble_eq_true rfl) fun t' k => h _ t' k (ints_flat c _)
end

end
/-! F7 -/
section
local macro_rules | `(tactic| walk_at $s:str) => `(tactic| k_extra $s)
set_option maxHeartbeats 8000000 in
theorem encode_spec (b c : Array UInt8) (ks cs : List Int) (t t1 : Tok) (hk : KBw.bInts b = ks) (hc : KBw.bInts c = cs) (hb : ks.length ≤ 16) (hb2 : cs.length ≤ 60) (hb3 : 2 ≤ cs.length) :
    Spec 37 3 24 [.bytes b t] [("alphabet", .bytes c t1)] (fun _ => True) (PBytes (textF cs ks)) := by
  intro prog w mean mg mb A env outer A₀ base h₀ L m s Q E B F X T hhd hA hf hke hd hu hpre hret
  obtain ⟨hdl, dp, fr, gd, un⟩ := A
  dsimp only at hhd hA hd hu hpre
  subst hhd hA
  refine wpAny_call ?_
  k_dflt (refine' enterP ?k1 ?k2 ?k3 ?k5 ?kA ?kF ?kK ?k6 ?k7 ?k8 ?k9 ?kB ?_ ?c2 ?c3 ?c4 ?c5; (case kA => exact rfl); (case kF => assumption); (case kK => assumption); (case k1 => k_asm); (case k2 => k_asm); (case k3 => k_asm);  (case k5 => k_asm); (case k6 => k_is); (case k7 => k_is); (case k8 => (try dsimp only); omega); (case k9 => first | exact BindsTo.of_eq rfl | exact binds_K (by k_in) rfl (by k_is) rfl rfl rfl | (refine' kp_binds ?kx ?ke; (case kx => k_in); (case ke => exact fun _ => rfl))); (case c5 => decide); (case kB => exact locs rfl); (case c2 => exact rfl); (case c3 => exact rfl); (case c4 => exact rfl); k_whole; intro L' h' F' N' B' X' T'; (try dsimp only); (try k_lift B'); (try k_fold))
  (k_with_none; (k_with "pyIter ref" => refine Stop.out ?_); (k_with "pyIter bytes" => refine Stop.out ?_); (k_with "exec While" => refine Stop.out ?_); (k_with "exec While Compare" => refine Stop.out ?_); (k_with "exec While BoolOp" => refine Stop.out ?_); (k_with "exec While Compare cons nil" => refine Stop.out ?_); (k_with "exec While Name" => refine Stop.out ?_); (k_with "InvEndN" => refine Stop.out ?_); (k_with "KswEnd" => refine Stop.out ?_))
  k_with "call ref" => first
    | (refine use_bytes (scrub_spec _ _ _ hk) (by k_asm) (by k_asm) (by k_asm) (by k_asm) (by k_asm) rfl rfl rfl rfl (by ktr_room) (by ktr_units) (by first | trivial | assumption | is_list) ?_; intro bU tU hU tkU kU FU NU)
    | (refine from_kw (by k_asm) (by k_memK) hSx (by rw [List.length_drop]; omega) ?_; intro tF kF)
    | (refine use_bytes (encint_spec _ _ _ _ _ hc hb2 hb3 hv0 hv1) (by k_asm) (by k_asm) (by k_asm) (by k_asm) (by k_asm) rfl rfl rfl rfl (by ktr_room) (by ktr_units) (by first | trivial | assumption | is_list) ?_; intro bU tU hU tkU kU FU NU)
  k_with "callWith ref" => (k_dflt (refine callWith_boundKw (by k_asm) (by k_memK) ?_))
  k_with "binaryOp Mult bytes int" => (k_dflt ((rename KBw.bInts _ = List.take _ _ => kS9); (rw [hc1] at kS9); refine mul_byte kS9 (by omega) (by omega) ?_; intro bM tM kM hM; have hM2 := hM))
  k_with "getMethod bytes" => (k_dflt (first | refine method_lstrip ?_ | refine method_rstrip ?_))
  k_with "call builtin:bytes.lstrip" => (k_dflt (refine lstrip_K (by assumption) (x := 0) (by rfl) (by omega) ?_; intro bS tS kS hS; rw [drop_nz] at hS; have hSx := hS))
  have hnz := nz_le ks
  have hkin : ∀ x ∈ ks, 0 ≤ x ∧ x < 256 := fun x hx => KBw.ints_in (hk ▸ hx)
  have hdin : ∀ x ∈ ks.drop (nz ks), 0 ≤ x ∧ x < 256 := fun x hx => hkin x (List.mem_of_mem_drop hx)
  have hv0 : 0 ≤ val 256 (ks.drop (nz ks)) := val_nonneg (by decide) _ fun x hx => (hdin x hx).1
  have hv1 : val 256 (ks.drop (nz ks)) < 2 ^ 256 := val_big hdin (by rw [List.length_drop]; omega)
  have hc1 : List.take (clipAt cs.length 1 - clipAt cs.length 0) (List.drop (clipAt cs.length 0) cs) = [cs.getD 0 0] := slice1 (k := 0) (by decide) (by omega)
  have hlen : (List.replicate ((ks.length : Int) - ((ks.length - nz ks : Nat) : Int)).toNat (cs.getD 0 0)).length + ((digs cs.length (val 256 (ks.drop (nz ks)))).reverse.map fun k => cs.getD k.toNat 0).length ≤ 16777216 := by
    have := digs_len (b := cs.length) (by omega) 256 _ hv1
    rw [List.length_replicate, List.length_map, List.length_reverse]
    omega
  k_with "binaryOp Add bytes bytes" => (k_dflt (refine KBa.add_K hM2 kU hlen ?_; intro tA kA hA))
  (k_steps; all_goals (repeat (first | (k_unfold; try dsimp only) | dsimp only)))
  refine fin_bytes hret (Fr.keep (by assumption)) ?_
  rename KBw.bInts (_ ++ _) = _ => hA
  rw [hA, val_drop]
  have e : ((ks.length : Int) - ((ks.length - nz ks : Nat) : Int)).toNat = nz ks := by omega
  rw [e]
  rfl

end
/-! Rules6 -/
section
/- --pure -/
section
open KBw
variable {prog : Program} {w : World} {A : Around} {E : Value → Shared → Prop} {s : Shared} {b : Array UInt8} {t : Tok}
theorem nextOf_item {it : Addr} {i : Nat} {c : UInt8} {Q : Value → Shared → Prop} (hit : IsBytesIter s.heap it b t i) (hx : b[i]? = some c)
    (hQ : ∀ h', IsBytesIter h' it b t (i + 1) → Heap.SameBut it s.heap h' → Q (.int (c.toNat : Int) s.toks) { s with heap := h', toks := s.toks + 1 }) : wpAny (model prog w) A (Builtin.SmallTypes.nextOf (.ref it)) Q E s := by
  obtain ⟨o, ho, hc, hd⟩ := id hit
  unfold Builtin.SmallTypes.nextOf
  refine wpAny_bind (wpAny_callSpecial?_slot (name := PySem.Str.ofString "__next__") (iter_typeIs hit) slot_next
    (wpAny_call_entry slot_next (iter_typeIs hit) entry_next ?_ (args_next _)))
  show wpAny _ _ (field (.ref it) 0 >>= _) _ _ s
  refine wpAny_bind (wpAny_field ho hd (x := .bytes b t) rfl ?_)
  show wpAny _ _ (if (Value.bytes b t == Value.none) = true then _ else _) _ _ s
  rw [if_neg (show ¬ ((Value.bytes b t == Value.none) = true) from Bool.false_ne_true)]
  show wpAny _ _ (field (.ref it) 1 >>= _) _ _ s
  refine wpAny_bind (wpAny_field ho hd (x := .int i 0) rfl ?_)
  refine wpAny_bind (wpAny_of_eq (a := b) rfl ?_)
  simp only [Int.toNat_natCast, hx]
  refine wpAny_bind (wpAny_setField ho hd (by simp) (wpAny_bind (wpAny_mkInt (wpAny_pure ⟨_, rfl, wpAny_pure (hQ _ ?_ (Heap.SameBut.update ..))⟩))))
  exact ⟨_, Heap.get?_update_self _ ho (Obj.isFreed_of_fields (Obj.data_mapFields hd _)), (Obj.cls_mapFields ..).trans hc, by
    rw [Obj.data_mapFields hd]; simp [rawInt]⟩
theorem nextOf_end {it : Addr} {i : Nat} {Q : Value → Shared → Prop} (hh : A.handled = none) (hit : IsBytesIter s.heap it b t i) (hx : b[i]? = none)
    (hE : ∀ h' e, Heap.ExtBut it s.heap h' → (∃ o, h'.get? e = some o ∧ o.cls = .type "StopIteration") → E (.ref e) { s with heap := h' }) : wpAny (model prog w) A (Builtin.SmallTypes.nextOf (.ref it)) Q E s := by
  obtain ⟨o, ho, hc, hd⟩ := id hit
  unfold Builtin.SmallTypes.nextOf
  refine wpAny_bind (wpAny_callSpecial?_slot (name := PySem.Str.ofString "__next__") (iter_typeIs hit) slot_next
    (wpAny_call_entry slot_next (iter_typeIs hit) entry_next ?_ (args_next _)))
  show wpAny _ _ (field (.ref it) 0 >>= _) _ _ s
  refine wpAny_bind (wpAny_field ho hd (x := .bytes b t) rfl ?_)
  show wpAny _ _ (if (Value.bytes b t == Value.none) = true then _ else _) _ _ s
  rw [if_neg (show ¬ ((Value.bytes b t == Value.none) = true) from Bool.false_ne_true)]
  show wpAny _ _ (field (.ref it) 1 >>= _) _ _ s
  refine wpAny_bind (wpAny_field ho hd (x := .int i 0) rfl ?_)
  refine wpAny_bind (wpAny_of_eq (a := b) rfl ?_)
  simp only [Int.toNat_natCast, hx]
  refine wpAny_bind (wpAny_rule (wpAny_bind (wpAny_setField ho hd (by simp) ?_)))
  show wpAny _ _ (newExc (.type "StopIteration") [] >>= _) _ _ _
  refine wpAny_bind ?_
  simp only [newExc, newTuple]
  refine wpAny_bind (wpAny_newObj_type ?_ (by size_fits))
  refine wpAny_bind (m := firstArgMember _ _) (wpAny_of_eq (a := Value.none) (by first | rfl | (simp only [firstArgMember]; rfl)) ?_)
  refine wpAny_newObj_type ?_ (by size_fits)
  simp only [raiseNew]
  refine wpAny_bind (wpAny_handled ?_)
  rw [show A.in1.handled = none from hh]
  refine wpAny_bind (wpAny_pure (wpAny_throw ?_))
  exact hE _ _ (((Heap.SameBut.update ..).extBut.push _).push _) ⟨_, Heap.get?_push_size _ rfl, rfl⟩
theorem draws_bytes (hh : A.handled = none) (it : Addr) (b : Array UInt8) (t : Tok) :
    Draws prog w A it [it] b.size (fun i v => ∃ c u, b[i]? = some c ∧ v = .int (c.toNat : Int) u) (fun i h => IsBytesIter h it b t i) where
  live := fun _ _ st => let ⟨o, ho, _⟩ := st; ⟨o, ho⟩
  frame := fun _ _ _ st hk => let ⟨o, ho, r⟩ := st; ⟨o, hk it (by simp) o ho, r⟩
  item := fun i s Q E hi st hQ => by
    refine nextOf_item st (c := b[i]) (by simp [hi]) fun h' hit' hs' => ?_
    exact hQ _ h' (s.toks + 1) ⟨_, _, by simp [hi], rfl⟩ hit' hs'
  done := fun s Q E st hE => nextOf_end hh st (by simp) hE

set_option maxHeartbeats 1000000 in
theorem meets_enumerate_newB (x : Array UInt8) (t : Tok) :
    Meets (Builtin.«enumerate.__new__» ⟨[.type "enumerate", .bytes x t], []⟩) (fun _ R s =>
      R (.ok (.ret (.ref (s.heap.push { cls := .type "bytes_iterator", data := .fields #[.bytes x t, .int 0 0] }).objs.size)))
        { s with heap := (s.heap.push { cls := .type "bytes_iterator", data := .fields #[.bytes x t, .int 0 0] }).push { cls := .type "enumerate", data := .fields #[.none, .bool false, .ref s.heap.objs.size, rawInt 0, .none, .none] } }) :=
  .of_wp fun prog w A R s h => by
    obtain ⟨hp, g, d, tk, os⟩ := s
    have hsub := sub_enumerate
    wp_walk
    refine wpAny_stack_any fun st => wpAny_pure ?_
    split
    · rename_i c _ _ _ _ _
      cases (c == Value.type "enumerate")
      · wp_walk using pyIter_bytes
        exact ⟨_, rfl, h⟩
      · wp_walk using pyIter_bytes
        exact ⟨_, rfl, h⟩
    · wp_walk using pyIter_bytes
      exact ⟨_, rfl, h⟩
theorem call_enumerate_bytes {x : Array UInt8} {t : Tok} {Q : Value → Shared → Prop}
    (h : ∀ h', IsEnum h' (s.heap.objs.size + 1) s.heap.objs.size 0 .none → IsBytesIter h' s.heap.objs.size x t 0 → h'.objs.size = s.heap.objs.size + 2 →
      (∀ b o, s.heap.get? b = some o → h'.get? b = some o) → Q (.ref (s.heap.objs.size + 1)) { s with heap := h' }) :
    wpAny (model prog w) A (call (.type "enumerate") [.bytes x t]) Q E s := by
  refine callType_new F.called_enumerate (by decide) (F.typeCall_enumerate_1 _) (F.newCall_enumerate_1 _) (fun obj => F.args_object_init_2 obj _) F.entry_enumerate_new
    (meets_enumerate_newB x t) ?_
  have hz : (s.heap.push { cls := .type "bytes_iterator", data := .fields #[.bytes x t, .int 0 0] }).objs.size = s.heap.objs.size + 1 := Heap.size_push ..
  show _ ∧ _
  rw [hz]
  have he : IsEnum ((s.heap.push { cls := .type "bytes_iterator", data := .fields #[.bytes x t, .int 0 0] }).push
      { cls := .type "enumerate", data := .fields #[.none, .bool false, .ref s.heap.objs.size, rawInt 0, .none, .none] }) (s.heap.objs.size + 1) s.heap.objs.size 0 .none := by
    have := Heap.get?_push_size (s.heap.push { cls := .type "bytes_iterator", data := .fields #[.bytes x t, .int 0 0] })
      (o := { cls := .type "enumerate", data := .fields #[.none, .bool false, .ref s.heap.objs.size, rawInt 0, .none, .none] }) rfl
    rw [hz] at this; exact this
  refine ⟨⟨_, he, rfl⟩, h _ he ⟨_, Heap.get?_push_of_some _ (Heap.get?_push_size _ rfl), rfl, rfl⟩ (by rw [Heap.size_push, hz]) fun b o y => Heap.get?_push_of_some _ (Heap.get?_push_of_some _ y)⟩
end
/-- a dict of ints under int keys, by what it holds -/
noncomputable def Tab (f : Int → Option Value) (g : Int → Option Int) : Prop := ∀ k, (g k = none ∧ f k = none) ∨ ∃ x t, g k = some x ∧ f k = some (.int x t)
noncomputable def TabO (o : Obj) (g : Int → Option Int) (n : Nat) : Prop := ∀ (h : Heap) a, h.get? a = some o → ∃ f, h.IntMap a f ∧ h.DictLe a n ∧ Tab f g
noncomputable def tabAt (ks : List Int) : Nat → Int → Option Int
  | 0 => fun _ => none
  | i + 1 => fun k => if k = ks.getD i 0 then some (i : Int) else tabAt ks i k
theorem Tab.put {f : Int → Option Value} {g : Int → Option Int} (T : Tab f g) (k x : Int) (t : Tok) : Tab (fun y => if y = k then some (.int x t) else f y) (fun y => if y = k then some x else g y) := by
  intro y
  dsimp only
  by_cases h : y = k
  · rw [if_pos h, if_pos h]; exact .inr ⟨x, t, rfl, rfl⟩
  · rw [if_neg h, if_neg h]; exact T y
theorem TabO.of {h : Heap} {a : Addr} {o : Obj} {f : Int → Option Value} {g : Int → Option Int} {n : Nat} (e : h.get? a = some o) (M : h.IntMap a f) (Z : h.DictLe a n) (T : Tab f g) : TabO o g n := by
  intro h' a' e'
  obtain ⟨o₁, es, ep, ho, hc, hd, hk, hf⟩ := M
  rw [e] at ho
  cases ho
  exact ⟨f, ⟨o, es, ep, e', hc, hd, hk, hf⟩, fun o₂ es₂ ep₂ h₂ hd₂ => Z o es₂ ep₂ e (by rw [e'] at h₂; cases h₂; exact hd₂), T⟩
section
variable {prog : Program} {w : World} {A : Around} {E : Value → Shared → Prop} {R : Result → Shared → Prop} {s : Shared}
theorem compLoopD {kx vx target iter : Expr} {ifs : List Expr} {scope : Scope} {pos : Pos} {it : Value} {D : Addr} {env : Env} (I : Nat → Shared → Prop)
    (turn : ∀ n s, I n s → wpAny (model prog w) A (pyNext it) (fun r s₁ => match r with
      | none => R (.ok .next) s₁
      | some v => wpAny (model prog w) A (letOwnedTupleGo target it v) (fun _ s₁ => wpAny (model prog w) A (assign target env v) (fun _ s₂ =>
          wpAny (model prog w) A (forIn ifs true fun c r => if r = true then do let ok ← isTrue c env (eval c env); pure (ForInStep.yield ok) else pure (ForInStep.yield r)) (fun ok s₃ =>
            if ok = true then wpAny (model prog w) A (eval kx env) (fun kv s₄ => wpAny (model prog w) A (eval vx env) (fun vv s₅ =>
              wpAny (model prog w) A (dictSet D kv vv) (fun _ s₆ => ∃ m, m < n ∧ I m s₆) (notedBy (model prog w) A env fun e s' => R (.error e) s') s₅) (notedBy (model prog w) A env fun e s' => R (.error e) s') s₄) (notedBy (model prog w) A env fun e s' => R (.error e) s') s₃
            else ∃ m, m < n ∧ I m s₃) (notedBy (model prog w) A env fun e s' => R (.error e) s') s₂) (notedBy (model prog w) A env fun e s' => R (.error e) s') s₁) (notedBy (model prog w) A env fun e s' => R (.error e) s') s₁) (notedBy (model prog w) A env fun e s' => R (.error e) s') s)
    (n : Nat) (h : I n s) :
    codeAny (model prog w) A (.compLoop (.DictComp kx vx [⟨target, iter, ifs, 0⟩] scope pos) 0 it (.ref D) env) R s := by
  refine codeAny_loop rfl I (fun n s hI => ?_) n h
  show wpAny _ A ((compTurn (.DictComp kx vx [⟨target, iter, ifs, 0⟩] scope pos) 0 it (.ref D) env).onRaise (fun x => do noteFrame x env; theTreesLotGoes x)) _ _ s
  refine wpAny_noted ?_
  rw [compTurn_dict]
  refine wpAny_bind (wpAny_standAt (wpAny_bind (wpAny_mono (turn n s hI) (fun r s₁ h₁ => ?_) fun _ _ h' => h')))
  cases r with
  | none => exact wpAny_pure h₁
  | some v =>
    refine wpAny_bind (wpAny_mono h₁ (fun _ s₁' h₁' => ?_) fun _ _ h' => h')
    refine wpAny_bind (wpAny_mono h₁' (fun _ s₂ h₂ => wpAny_bind (wpAny_mono h₂ (fun ok s₃ h₃ => ?_) fun _ _ h' => h')) fun _ _ h' => h')
    cases ok with
    | false => exact wpAny_pure ⟨rfl, h₃⟩
    | true =>
      exact wpAny_bind (wpAny_bind (wpAny_mono h₃ (fun kv s₄ h₄ => wpAny_bind (wpAny_holding (wpAny_mono h₄ (fun vv s₅ h₅ => wpAny_bind (wpAny_standAt (wpAny_holding (wpAny_mono h₅ (fun _ s₆ h₆ => wpAny_pure ⟨rfl, h₆⟩) fun _ _ h' => h')))) fun _ _ h' => h'))) fun _ _ h' => h'))
end

end
/-! Rules7 -/
section
/- --pure -/
section
open KBw
variable {prog : Program} {w : World} {A : Around} {E : Value → Shared → Prop} {R : Result → Shared → Prop} {s : Shared} {h₀ : Heap} {L : Addr} {m : Str → Option Value} {env : Env} {news : List (Addr × Obj)}
  {iter : Expr} {xi xv : Str} {pi pv pi' pv' pt : Pos} {k : Nat} {scope : Scope} {cl : List (Str × Addr)} {pos : Pos} {b : Array UInt8} {tb : Tok} {ks : List Int}
theorem nne {a b : Nat} (h : a < b ∨ b < a) : a ≠ b := by omega
theorem lts {h : Heap} {b : Nat} {o : Obj} (e : h.get? b = some o) : b < h.objs.size := Heap.lt_size e
theorem enum_loop {cenv : Env} {e it D : Addr} {m : Str → Option Value} (hb : bInts b = ks) (hlen : ks.length ≤ 1000) (hh : A.handled = none) (hxi : cenv.kindOf xi = some .local) (hxv : cenv.kindOf xv = some .local) (hck : cenv.scope.kind = .function) (hne : xi ≠ xv) (hdi : (xi == ("__debug__" : Str)) = false) (hdv : (xv == ("__debug__" : Str)) = false)
    (hei : e ≠ it) (hDe : D ≠ e) (hDi : D ≠ it) (hCe : cenv.locals ≠ e) (hCi : cenv.locals ≠ it) (hCD : cenv.locals ≠ D)
    (he : IsEnum s.heap e it 0 .none) (hit : IsBytesIter s.heap it b tb 0) (hM : s.heap.IntMap D (fun _ => none)) (hZ : s.heap.DictLe D 0) (hn : s.heap.Ns cenv.locals m)
    (hR : ∀ h' tk m' f, h'.Ns cenv.locals m' → h'.IntMap D f → h'.DictLe D ks.length → Tab f (tabAt ks ks.length) → (∀ b o, b ≠ cenv.locals → b ≠ e → b ≠ it → b ≠ D → s.heap.get? b = some o → h'.get? b = some o) → R (.ok .next) { s with heap := h', toks := tk }) :
    codeAny (model prog w) A (.compLoop (.DictComp (.Name xv pv') (.Name xi pi') [⟨.Tuple [.Name xi pi, .Name xv pv] k pt, iter, [], 0⟩] scope pos) 0 (.ref e) (.ref D) cenv) R s := by
  have hsz : b.size = ks.length := by rw [← hb]; exact (ints_length b).symm
  have W := (WalksT.enumerateD (draws_bytes (prog := prog) (w := w) (A := A.in1) hh it b tb) e hei (by simpa using hei) (by simp)).toU
  have hwr : ∀ b', b' ≠ e → b' ≠ it → b' ∉ [e, it] := fun b' h1 h2 h3 => by
    rcases List.mem_cons.mp h3 with h | h
    · exact h1 h
    · exact h2 (List.mem_singleton.mp h)
  refine compLoopD
    (fun k s' => ∃ h' tk m' i f, s' = { s with heap := h', toks := tk } ∧ ((∃ old, IsEnum h' e it ((i : Nat) : Int) old) ∧ IsBytesIter h' it b tb i) ∧ h'.IntMap D f ∧ h'.DictLe D i ∧ Tab f (tabAt ks i) ∧ h'.Ns cenv.locals m' ∧ i ≤ b.size ∧
      k = b.size + 1 - i ∧ ∀ b o, b ≠ cenv.locals → b ≠ e → b ≠ it → b ≠ D → s.heap.get? b = some o → h'.get? b = some o) ?_ (b.size + 1)
    ⟨s.heap, s.toks, m, 0, _, rfl, ⟨⟨_, he⟩, hit⟩, hM, hZ, fun _ => .inl ⟨rfl, rfl⟩, hn, Nat.zero_le _, rfl, fun _ _ _ _ _ _ x => x⟩
  rintro k s' ⟨H, tk, m', i, f, rfl, hst, hM', hZ', hT, hn', hi, rfl, hk⟩
  by_cases hlt : i < b.size
  · refine W.item i _ _ _ hlt hst fun T vals h₁ tk₁ hP hTup hMid hk₁ => ?_
    obtain ⟨t, x, ⟨c, u, hc, rfl⟩, rfl⟩ := hP
    have hTw := W.apart i T _ hMid
    refine W.go _ _ _ i T _ _ _ hMid fun h₂ hst₂ hk₂ => ?_
    have hTup₂ : h₂.IsTuple T #[.int i t, .int (c.toNat : Int) u] := hTup.at fun o e => hk₂ _ o hTw e
    have up₂ : ∀ b' o, b' ≠ e → b' ≠ it → H.get? b' = some o → h₂.get? b' = some o := fun b' o h1 h2 x => hk₂ b' o (hwr b' h1 h2) (hk₁ b' o (hwr b' h1 h2) x)
    have hn₂ : h₂.Ns cenv.locals m' := hn'.at' fun o x => up₂ _ o hCe hCi x
    have hM₂ : h₂.IntMap D f := by
      obtain ⟨o, es, ep, ho, r⟩ := hM'
      exact ⟨o, es, ep, up₂ _ o hDe hDi ho, r⟩
    have hZ₂ : h₂.DictLe D i := by
      obtain ⟨o, es, ep, ho, r⟩ := hM'
      exact hZ'.of_same ho (up₂ _ o hDe hDi ho)
    refine wpAny_assign_Tuple hh hTup₂ rfl rfl fun h₃ hx₃ => ?_
    replace hx₃ : Heap.ExtBut h₂.objs.size h₂ h₃ := hx₃
    have up₃ : ∀ b' o, h₂.get? b' = some o → h₃.get? b' = some o := fun b' o x => hx₃ b' o (Nat.ne_of_lt (Heap.lt_size x)) x
    show wpAny _ A (do holding [.int (c.toNat : Int) u] (assign (.Name xi pi) cenv (.int i t)); do holding [] (assign (.Name xv pv) cenv (.int (c.toNat : Int) u)); pure ()) _ _ _
    have hp : (cenv.scope.kind == .class || (cenv.scope.kind == .module && cenv.locals != cenv.globals)) = false := by rw [hck]; rfl
    refine wpAny_bind (wpAny_holding (wpAny_assign_Name (wpAny_storeName_local hxi (hn₂.at' fun o x => up₃ _ o x) (fun h₄ hn₄ hs₄ => ?_) hp)))
    replace hs₄ : Heap.SameBut cenv.locals h₃ h₄ := hs₄
    refine wpAny_bind (wpAny_holding (wpAny_assign_Name (wpAny_storeName_local hxv hn₄ (fun h₅ hn₅ hs₅ => wpAny_pure ?_) hp)))
    replace hs₅ : Heap.SameBut cenv.locals h₄ h₅ := hs₅
    refine wpAny_pure ?_
    rw [if_pos rfl]
    refine wpAny_Name (wpAny_loadName_local hck hxv hn₅ (v := .int (c.toNat : Int) u) (by simp) ?_) hdv
    refine wpAny_Name (wpAny_loadName_local hck hxi hn₅ (v := .int (i : Int) t) (by simp [hne]) ?_) hdi
    have up₅ : ∀ b' o, b' ≠ cenv.locals → h₂.get? b' = some o → h₅.get? b' = some o := fun b' o hb x => hs₅.extBut b' o hb (hs₄.extBut b' o hb (up₃ b' o x))
    have hM₅ : h₅.IntMap D f := by
      obtain ⟨o, es, ep, ho, r⟩ := hM₂
      exact ⟨o, es, ep, up₅ _ o (Ne.symm hCD) ho, r⟩
    have hZ₅ : h₅.DictLe D i := by
      obtain ⟨o, es, ep, ho, r⟩ := hM₂
      exact hZ₂.of_same ho (up₅ _ o (Ne.symm hCD) ho)
    have hsl : i ≤ sizeLine := by rw [sizeLine_eq]; omega
    refine wpAny_dictSet_int_le hM₅ hZ₅ hsl fun h₆ hM₆ hZ₆ hs₆ => ?_
    replace hs₆ : Heap.SameBut D h₅ h₆ := hs₆
    refine ⟨b.size + 1 - (i + 1), by omega, h₆, _, _, i + 1, _, rfl, W.frame _ _ _ hst₂ fun b' hb' o x => ?_, hM₆, hZ₆, ?_, hn₅.sameBut hs₆ hCD, hlt, rfl, fun b' o h1 h2 h3 h4 x => ?_⟩
    · have hbD : b' ≠ D := fun q => by
        rcases List.mem_cons.mp hb' with h | h
        · exact hDe (q.symm.trans h)
        · exact hDi (q.symm.trans (List.mem_singleton.mp h))
      have hbC : b' ≠ cenv.locals := fun q => by
        rcases List.mem_cons.mp hb' with h | h
        · exact hCe (q.symm.trans h)
        · exact hCi (q.symm.trans (List.mem_singleton.mp h))
      exact hs₆.extBut b' o hbD (up₅ b' o hbC x)
    · have hg : ks.getD i 0 = (c.toNat : Int) := by
        have := ints_get hc
        rw [hb] at this
        rw [List.getD_eq_getElem?_getD, this]; rfl
      have e1 : tabAt ks (i + 1) = fun y => if y = (c.toNat : Int) then some (i : Int) else tabAt ks i y := by
        funext y
        show (if y = ks.getD i 0 then some (i : Int) else tabAt ks i y) = _
        rw [hg]
      rw [e1]
      exact hT.put _ _ _
    · exact hs₆.extBut b' o h4 (up₅ b' o h1 (up₂ b' o h2 h3 (hk b' o h1 h2 h3 h4 x)))
  · have hin : i = b.size := by omega
    subst hin
    refine W.done _ _ _ hst fun h₁ tk₁ hk₁ => ?_
    refine hR h₁ tk₁ m' f (hn'.at' fun o x => hk₁ _ o (hwr _ hCe hCi) x) ?_ ?_ (hsz ▸ hT) fun b' o h1 h2 h3 h4 x => hk₁ b' o (hwr b' h2 h3) (hk b' o h1 h2 h3 h4 x)
    · obtain ⟨o, es, ep, ho, r⟩ := hM'
      exact ⟨o, es, ep, hk₁ _ o (hwr _ hDe hDi) ho, r⟩
    · obtain ⟨o, es, ep, ho, r⟩ := hM'
      exact hsz ▸ hZ'.of_same ho (hk₁ _ o (hwr _ hDe hDi) ho)

noncomputable def EnumB (b : Array UInt8) (tb : Tok) (s : Shared) (v : Value) (s₁ : Shared) : Prop :=
  ∃ h' tk, v = .ref (s.heap.objs.size + 1) ∧ s₁ = { s with heap := h', toks := tk } ∧ IsEnum h' (s.heap.objs.size + 1) s.heap.objs.size 0 .none ∧ IsBytesIter h' s.heap.objs.size b tb 0 ∧ h'.objs.size = s.heap.objs.size + 2 ∧
      ∀ b o, s.heap.get? b = some o → h'.get? b = some o
theorem dict_enum {Q : Value → Shared → Prop} (F : Fr h₀ L s.heap m) (N : News h₀ L s.heap news) (hb : bInts b = ks) (hlen : ks.length ≤ 1000) (hh : A.handled = none)
    (hclos : closureFor scope env = pure cl) (hcell : ∀ y ∈ scope.names, y.2 ≠ .cell) (hkind : scope.kind = .function)
    (hnames : ∀ y ∈ scope.names, y.2 = .local → scope.names.lookup y.1 = some .local) (hxi : scope.names.lookup xi = some .local) (hxv : scope.names.lookup xv = some .local) (hne : xi ≠ xv) (hdi : (xi == ("__debug__" : Str)) = false) (hdv : (xv == ("__debug__" : Str)) = false)
    (hi : wpAny (model prog w) A (eval iter env) (EnumB b tb s) E s)
    (hs : ∀ x, foldedSetIterable iter env x = pure x)
    (hQ : ∀ D o h tk, Fr h₀ L h m → News h₀ L h ((D, o) :: news) → (∀ p ∈ news, p.1 ≠ D) → TabO o (tabAt ks ks.length) ks.length → Q (.ref D) { s with heap := h, toks := tk }) :
    wpAny (model prog w) A (eval (.DictComp (.Name xv pv') (.Name xi pi') [⟨.Tuple [.Name xi pi, .Name xv pv] k pt, iter, [], 0⟩] scope pos) env) Q E s := by
  rw [arm_eval_DictComp]
  refine wpAny_comprehension_free (use := none) rfl hs hclos hkind hnames (wpAny_mono hi (fun v s₁ h₁ => ?_) fun _ _ e => e)
  obtain ⟨h₁, tk₁, rfl, rfl, he, hit, hz, up⟩ := h₁
  refine wpAny_pyIter_enum he ?_
  refine wpAny_newObj_type (wpAny_newFunctionEnv hcell (by intro y hy; simp at hy) (fun h₂ hns₂ hsb₂ => ?_) hkind)
  dsimp only at hns₂ hsb₂ ⊢
  have hnewM : (h₁.push { cls := .type "dict", dict := none, data := .dict #[] }).IntMap h₁.objs.size fun _ => none := Heap.IntMap.new h₁
  have hnewZ : (h₁.push { cls := .type "dict", dict := none, data := .dict #[] }).DictLe h₁.objs.size 0 := Heap.DictLe.new h₁
  generalize hH2 : h₁.push { cls := .type "dict", dict := none, data := .dict #[] } = H2 at hns₂ hsb₂ hnewM hnewZ ⊢
  have hC : H2.objs.size = h₁.objs.size + 1 := by rw [← hH2, Heap.size_push]
  generalize hS : s.heap.objs.size = S at *
  have hLs : @LT.lt Nat _ L S := hS ▸ F.ns.lt
  have old : ∀ b o, h₁.get? b = some o → h₂.get? b = some o := fun b o e => hsb₂.extBut b o (nne (by have := lts e; omega)) (Heap.get?_push_of_some _ (hH2 ▸ Heap.get?_push_of_some _ e))
  have hM₂ : h₂.IntMap h₁.objs.size fun _ => none := by
    obtain ⟨o, es, ep, ho, r⟩ := hnewM
    exact ⟨o, es, ep, hsb₂.extBut _ _ (nne (by omega)) (Heap.get?_push_of_some _ ho), r⟩
  have hZ₂ : h₂.DictLe h₁.objs.size 0 := by
    obtain ⟨o, es, ep, ho, r⟩ := hnewM
    exact hnewZ.of_same ho (hsb₂.extBut _ _ (nne (by omega)) (Heap.get?_push_of_some _ ho))
  have lem : ∀ (b : Nat) o, s.heap.get? b = some o → b < S := fun b o e => hS ▸ Heap.lt_size e
  refine codeAny_compStart_dict ?a ?b
  case b =>
    refine wpAny_pyIter_enum (old _ _ he) ?_
    exact ?a
  refine enum_loop (cenv := compEnvC scope cl H2.objs.size env) hb hlen hh (lookup_relabel_local hxi) (lookup_relabel_local hxv) (by simp [compEnvC, relabel, hkind]) hne hdi hdv (nne (by omega)) (nne (by omega)) (nne (by omega)) (by show H2.objs.size ≠ _; exact nne (by omega)) (by show H2.objs.size ≠ _; exact nne (by omega)) (by show H2.objs.size ≠ _; exact nne (by omega))
    (old _ _ he) (by obtain ⟨o, ho, r⟩ := hit; exact ⟨o, old _ _ ho, r⟩) hM₂ hZ₂ hns₂ fun h' tk m' f hn' hM' hZ' hT' hk' => ?_
  refine ⟨m', hn', fun h'' hs'' => ?_⟩
  replace hs'' : Heap.SameBut H2.objs.size h' h'' := hs''
  obtain ⟨o, es, ep, ho, r⟩ := hM'
  have hst : ∀ b o, s.heap.get? b = some o → h''.get? b = some o := fun b o e => by
    have h1 := lem b o e
    exact hs''.extBut b o (nne (by omega)) (hk' b o (by show b ≠ H2.objs.size; exact nne (by omega)) (nne (by omega)) (nne (by omega)) (nne (by omega)) (old b o (up b o e)))
  refine hQ _ o h'' tk (F.keeps hst) (fun p hp => ?_) (fun p hp => ?_) (TabO.of ho ⟨o, es, ep, ho, r⟩ hZ' hT')
  · rcases List.mem_cons.mp hp with rfl | hp
    · refine ⟨hs''.extBut _ _ (by show h₁.objs.size ≠ _; exact nne (by omega)) ho, by show h₁.objs.size ≠ L; exact nne (by omega), ?_⟩
      cases e : h₀.get? h₁.objs.size with
      | none => rfl
      | some o => have := lem _ _ (F.keep _ _ e); omega
    · exact ⟨hst _ _ (N p hp).1, (N p hp).2⟩
  · have := lem _ _ (N p hp).1
    exact nne (by omega)
end

end
/-! Rules8 -/
section
/- --pure -/
section
variable {prog : Program} {w : World} {A : Around} {E : Value → Shared → Prop} {s : Shared} {h₀ : Heap} {L d : Addr} {m : Str → Option Value} {news : List (Addr × Obj)} {o : Obj} {g : Int → Option Int} {n : Nat} {u : Obj → List (Addr × Obj)}
theorem getItem_miss {f : Int → Option Value} {k : Int} {t : Tok} {Q : Value → Shared → Prop} (hh : A.handled = none) (hm : s.heap.IntMap d f) (hv : f k = none)
    (h : ∀ h' e, Heap.NewExc s.heap h' e "KeyError" → E (.ref e) { s with heap := h', toks := s.toks + 1 }) : wpAny (model prog w) A (getItem (.ref d) (.int k t)) Q E s := by
  unfold getItem
  try with_reducible refine wpAny_holding ?_
  refine wpAny_bind (wpAny_sequenceKey hm.typeIs (by decide) ?_)
  refine wpAny_bind (wpAny_callSpecial?_slot (name := Str.ofString "__getitem__") hm.typeIs slot_dict_getitem
    (wpAny_call_entry slot_dict_getitem hm.typeIs entry_dict_getitem ?_ (args_dict_getitem _ _)))
  show wpAny _ _ (dictGet d (.int k t) >>= _) _ _ s
  refine wpAny_bind (wpAny_dictGet_int hm ?_)
  rw [hv]
  show wpAny _ _ (Builtin.Dict.missed d (.int k t) >>= _) _ _ _
  refine wpAny_bind (wpAny_missed_int ?_)
  refine wpAny_bind (wpAny_typeOf (s := { s with toks := s.toks + 1 }) hm.typeIs ?_)
  show wpAny _ _ (if (Value.type "dict" != Value.type "dict") = true then _ else _) _ _ _
  rw [if_neg (by decide)]
  exact wpAny_bind (wpAny_rule (wpAny_raise_newExc (A := A.in1) plainExc_KeyError hh h))
theorem in_tab {k : Int} {t : Tok} {Q : Value → Shared → Prop} (N : News h₀ L s.heap news) (hp : (d, o) ∈ news) (T : TabO o g n) (h : Q (.bool (g k).isSome) { s with toks := s.toks + 1 }) :
    wpAny (model prog w) A (compareOp .In (.int k t) (.ref d)) Q E s := by
  obtain ⟨f, M, _, R⟩ := T _ _ (N.get hp)
  refine wpAny_in_intMap M ?_
  rcases R k with ⟨e1, e2⟩ | ⟨x, t, e1, e2⟩ <;> rw [e1] at h <;> rw [e2] <;> exact h
theorem item_tab {value slice : PySem.Expr} {k x : Int} {t : Tok} {Q : Value → Shared → Prop} (N : News h₀ L s.heap news) (hp : (d, o) ∈ news) (T : TabO o g n) (hx : g k = some x) (h : ∀ t', Q (.int x t') { s with toks := s.toks + 1 })
    (hs : subscripted slice false (.ref d) (.int k t) = operate [.ref d, .int k t] (getItem (.ref d) (.int k t)) := by with_unfolding_all rfl) (hg : ∀ r, letTemporaryGo value (.ref d) r = pure () := by intro _; with_unfolding_all rfl) :
    wpAny (model prog w) A (subscriptTail value slice (.ref d) (.int k t)) Q E s := by
  obtain ⟨f, M, _, R⟩ := T _ _ (N.get hp)
  rcases R k with ⟨e1, e2⟩ | ⟨y, t', e1, e2⟩
  · rw [e1] at hx; cases hx
  · rw [e1] at hx
    cases hx
    exact subscriptTail_builtin M.typeIs slot_dict_getitem.lookup (wpAny_getItem_intMap M e2 (h t')) hs hg
theorem miss_tab {value slice : PySem.Expr} {k : Int} {t : Tok} {Q : Value → Shared → Prop} (hh : A.handled = none) (N : News h₀ L s.heap news) (hp : (d, o) ∈ news) (T : TabO o g n) (hx : g k = none)
    (h : ∀ h' e, Heap.NewExc s.heap h' e "KeyError" → E (.ref e) { s with heap := h', toks := s.toks + 1 })
    (hs : subscripted slice false (.ref d) (.int k t) = operate [.ref d, .int k t] (getItem (.ref d) (.int k t)) := by with_unfolding_all rfl) (hg : ∀ r, letTemporaryGo value (.ref d) r = pure () := by intro _; with_unfolding_all rfl) :
    wpAny (model prog w) A (subscriptTail value slice (.ref d) (.int k t)) Q E s := by
  obtain ⟨f, M, _, R⟩ := T _ _ (N.get hp)
  rcases R k with ⟨e1, e2⟩ | ⟨y, t', e1, e2⟩
  · exact subscriptTail_builtin M.typeIs slot_dict_getitem.lookup (getItem_miss hh M e2 h) hs hg
  · rw [e1] at hx; cases hx
theorem set_tab {k x : Int} {t tx : Tok} {Q : Unit → Shared → Prop} (F : Fr h₀ L s.heap m) (N : News h₀ L s.heap news) (U : UpdF d o news u) (T : TabO o g n) (hn : n ≤ 16777216)
    (h : ∀ h' o', Fr h₀ L h' m → News h₀ L h' (u o') → TabO o' (fun y => if y = k then some x else g y) (n + 1) → Q () { s with heap := h', toks := s.toks + 1 }) :
    wpAny (model prog w) A (setItem (.ref d) (.int k t) (.int x tx)) Q E s := by
  obtain ⟨pre, post, rfl, hg, a, b⟩ := U.split
  have hm := N (d, o) (List.mem_append_right _ (.head _))
  obtain ⟨f, M, Z, R⟩ := T _ _ hm.1
  refine wpAny_setItem_intMap_le M Z (by rw [sizeLine_eq]; exact hn) fun h' hM hZ hs => ?_
  obtain ⟨o', es, ep, ho', r⟩ := hM
  exact h h' o' (F.change hs hm.2.1 hm.2.2) (hg o' ▸ N.setIn a b hs ho') (TabO.of ho' ⟨o', es, ep, ho', r⟩ hZ (R.put k x tx))
end
/-! the two groups of alike signs -/
noncomputable def h0 : List Int := [48, 79, 111]
noncomputable def h1 : List Int := [73, 108, 49]
noncomputable def h1b : List Int := [73, 108, 49]
noncomputable def fixOne (G : List Int) (g : Int → Option Int) : Int → Option Int :=
  if (G.filter fun c => (g c).isSome).length = 1 then fun k => if k ∈ G then g ((G.filter fun c => (g c).isSome).getD 0 0) else g k else g
noncomputable def putG (pre : List Int) (x : Int) (g : Int → Option Int) : Int → Option Int := fun k => if k ∈ pre then some x else g k
theorem putG_snoc (pre : List Int) (x k : Int) (g : Int → Option Int) : putG (pre ++ [k]) x g = fun y => if y = k then some x else putG pre x g y := by
  funext y
  unfold putG
  by_cases h : y = k
  · rw [if_pos h, if_pos (by simp [h])]
  · rw [if_neg h]
    by_cases h2 : y ∈ pre
    · rw [if_pos h2, if_pos (by simp [h2])]
    · rw [if_neg h2, if_neg (by simp [h2, h])]
theorem putG_at {pre : List Int} {x p : Int} {g : Int → Option Int} (h : g p = some x) : putG pre x g p = some x := by
  unfold putG
  split
  · rfl
  · exact h
/-! a loop over some bytes that writes to one dict -/
abbrev KD {ι : Type} (a : Addr) (ex : List (Addr × Obj)) (psI : ι → List (Str × Value)) (x : Str) (stored : List Str) (m₀ : Str → Option Value) (G : List Int → ι → Int → Option Int) (P : List Int → ι → Prop) (n : Nat) (pre : List Int) :=
  KstS (σ := Obj × ι) (fun c => (a, c.1) :: ex) (fun c => psI c.2) (fun _ => True) x stored m₀ (fun pre c => P pre c.2 ∧ TabO c.1 (G pre c.2) (n + pre.length)) pre
section
variable {prog : Program} {w : World} {A : Around} {E : Value → Shared → Prop} {s : Shared} {env : Env} {h₀ : Heap} {x : Str} {body : List Stmt} {Q : Flow → Shared → Prop}
  {ι : Type} {a : Addr} {o₀ : Obj} {ex : List (Addr × Obj)} {m₀ : Str → Option Value}
theorem loopBd {b : Array UInt8} {ks : List Int} {tb : Tok} (G : List Int → ι → Int → Option Int) (n : Nat) (psI : ι → List (Str × Value)) (i₀ : ι) (stored : List Str) (P : List Int → ι → Prop)
    (hb : KBw.bInts b = ks) (hh : A.handled = none) (F : Fr h₀ env.locals s.heap m₀) (N : News h₀ env.locals s.heap ((a, o₀) :: ex)) (ho : TabO o₀ (G [] i₀) n) (hk : ∀ p ∈ psI i₀, m₀ p.1 = some p.2) (hp : P [] i₀)
    (turn : ∀ (o : Obj) (i : ι) (pre post : List Int) (k : Int) (t : Tok) (u : Str → Option Value) (h : Heap) (tk : Nat) (own : List (Addr × Obj)), ks = pre ++ k :: post → 0 ≤ k → k < 256 → OwnOff own (a :: ex.map (·.1)) → TabO o (G pre i) (n + pre.length) → P pre i →
      Fr h₀ env.locals h (fun y => if y = x then some (.int k t) else kstB (fun z => if stored.contains z then u z else m₀ z) (psI i) y) → News h₀ env.locals h ((a, o) :: (ex ++ own)) →
      wpAny (model prog w) A (execs body env) (InvPostN h₀ env.locals (KD a ex psI x stored m₀ G P n (pre ++ [k])) own (a :: ex.map (·.1)) { s with heap := h, toks := tk } Q) E { s with heap := h, toks := tk })
    (done : ∀ (o : Obj) (i : ι) (u : Str → Option Value) (h : Heap) (tk : Nat), TabO o (G ks i) (n + ks.length) → P ks i →
      Fr h₀ env.locals h (fun y => if y = x then u y else kstB (fun z => if stored.contains z then u z else m₀ z) (psI i) y) → News h₀ env.locals h ((a, o) :: ex) → Q .next { s with heap := h, toks := tk }) :
    wpAny (model prog w) A (pyIter (.bytes b tb)) (fun it s₂ => LoopAtV prog w A h₀ env x body Q E it s₂) E s :=
  KStb.kst_bytes (σ := Obj × ι) (fun c => (a, c.1) :: ex) (fun c => psI c.2) (fun _ => True) stored (fun pre c => P pre c.2 ∧ TabO c.1 (G pre c.2) (n + pre.length)) (o₀, i₀) hb rfl hh F N trivial hk ⟨hp, ho⟩
    (fun c pre post k t u h tk own e _ h1 h2 h3 h4 h5 h6 h7 => turn c.1 c.2 pre post k t u h tk own e h1 h2 h3 h5.2 h5.1 h6 h7)
    (fun c u h tk _ h1 h2 h3 h4 => done c.1 c.2 u h tk h2.2 h2.1 h3 h4)
end

end
/-! Rules9 -/
section
/- --pure -/
section
open PyProof.Rows.LCg PyProof.Rows.LCt
variable {prog : Program} {w : World} {A : Around} {E : Value → Shared → Prop} {s : Shared} {h₀ : Heap} {L : Addr} {m : Str → Option Value} {env : Env} {news : List (Addr × Obj)}
  {ct elt iter : Expr} {x y : Str} {px py : Pos} {scope : Scope} {cl : List (Str × Addr)} {pos spos : Pos}
/-- `y = [elt for x in some bytes if ct]` -/
theorem comp_bytesA {Q : Flow → Shared → Prop} {b : Array UInt8} {ks : List Int} (q : Int → Bool) (g : Int → Int) (F : Fr h₀ L s.heap m) (N : News h₀ L s.heap news) (hLe : env.locals = L) (hh : A.handled = none) (hb : KBw.bInts b = ks) (hlen : ks.length ≤ 16777216)
    (hsw : swapsWith (.ListComp elt [⟨.Name x px, iter, [ct], 0⟩] scope pos) (some (.Name y py)) spos.line env = pure true)
    (hclos : closureFor scope env = pure cl) (hcell : ∀ y ∈ scope.names, y.2 ≠ .cell) (hkind : scope.kind = .function)
    (hnames : ∀ y ∈ scope.names, y.2 = .local → scope.names.lookup y.1 = some .local) (hx : scope.names.lookup x = some .local)
    (hy : env.kindOf y = some .local) (hp : (env.scope.kind == .class || (env.scope.kind == .module && env.locals != env.globals)) = false)
    (hi : wpAny (model prog w) A (eval iter env) (fun v s₁ => (∃ tb, v = .bytes b tb) ∧ s₁ = s) E s)
    (hs : ∀ x, foldedSetIterable iter env x = pure x)
    (hq : ∀ k C h, k ∈ ks → InTurn h₀ L m news x C k h → Quiet prog w A (isTrue ct (compEnvC scope cl C env) (eval ct (compEnvC scope cl C env))) s h (fun ok => ok = q k))
    (hg : ∀ k C h, k ∈ ks → q k = true → InTurn h₀ L m news x C k h → Quiet prog w A (eval elt (compEnvC scope cl C env)) s h (fun v => ∃ t, v = .int (g k) t))
    (hQ : ∀ D ys h tk, Fr h₀ L h (fun z => if z = y then some (.ref D) else m z) → News h₀ L h ((D, lst ys) :: news) → (∀ p ∈ news, p.1 ≠ D) → IntsAre ys ((ks.filter q).map g) → Q .next { s with heap := h, toks := tk }) :
    wpAny (model prog w) A (exec (.Assign [.Name y py] (.ListComp elt [⟨.Name x px, iter, [ct], 0⟩] scope pos) spos) env) Q E s := by
  subst hLe
  rw [exec_Assign_Name_used _ _ _ _ hsw]
  refine wpAny_bind (wpAny_standAt (wpAny_bind ?_))
  show wpAny _ A (do let _ ← comprehension (.ListComp elt [⟨.Name x px, iter, [ct], 0⟩] scope pos) scope env _ (newList []) false (eval iter env) (some (assign (.Name y py) env))) _ _ s
  refine wpAny_bind (wpAny_mono (wpAny_comprehension_free (use := some (assign (.Name y py) env)) (Q := fun _ s' => Q .next s') rfl hs hclos hkind hnames
    (wpAny_mono hi (fun v s₁ ⟨⟨tb, ev⟩, es⟩ => ?_) fun _ _ e => e)) (fun _ s' hq => wpAny_pure (wpAny_pure hq)) fun _ _ e => e)
  subst ev es
  have hsz : b.size = ks.length := by rw [← KBw.ints_length, hb]
  refine KBw.pyIter_bytes ?_
  have W := KBw.walks (prog := prog) (w := w) hh s₁.heap.objs.size b tb
  rw [hsz] at W
  have up : ∀ b' ob, s₁.heap.get? b' = some ob → (s₁.heap.push { cls := .type "bytes_iterator", data := .fields #[.bytes b tb, .int 0 0] }).get? b' = some ob := fun b ob e => Heap.get?_push_of_some _ e
  refine block_T (S := fun _ => True) (Fin := fun ys nw => FinA h₀ env.locals m s₁ y Q ys nw) W (by rw [sizeLine_eq]; exact hlen) (fun i h st => by obtain ⟨o, e, _⟩ := st; exact ⟨o, e⟩) (fun i h h' o nw st e1 e2 k _ _ => ?_) hcell hkind hx ⟨_, Heap.get?_push_size _ rfl, rfl, rfl⟩ (fun b' hb' => ?_)
    (F.keeps up) (N.grown up) (Nat.ne_of_lt F.ns.lt) (next_is_new F) (fun p hp => Nat.ne_of_lt (Heap.lt_size (N p hp).1)) trivial
    (comp_rest (s := { s₁ with heap := s₁.heap.push _ }) q g rfl trivial (fun i v _ hv => ?_) (fun k C h hk ht tk E' => hq k C h hk ht tk E') (fun k C h hk h2 ht tk E' => hg k C h hk h2 ht tk E') fun ys hy' D h tk F' N' o1 => ?_) ?_
  · obtain ⟨o', e3, r⟩ := st
    rw [e1] at e3
    cases e3
    exact ⟨o, e2, r⟩
  · rw [Heap.size_push, List.mem_singleton.mp hb']
    exact Nat.lt_succ_self _
  · obtain ⟨n, u, hn, rfl⟩ := hv
    exact ⟨_, u, hb ▸ KBw.ints_get hn, rfl⟩
  · refine hQ D ys h tk F' N' ?_ hy'
    exact off1_mem o1
  · intro D C h' tk m' ys news' F' N' o1 hn hC₀ hD₀ hCL hDL hCD offC fin
    show wpAny _ A (assign (.Name y py) env (.ref D)) _ _ _
    refine wpAny_assign_Name (wpAny_storeName_local hy F'.ns (fun h₂ hn₂ hs₂ => ?_) hp)
    have hL₀ : h₀.get? env.locals = none := Heap.get?_none_of_le F'.above
    have F₂ : Fr h₀ env.locals h₂ (fun z => if z = y then some (.ref D) else m z) := ⟨hn₂, fun b o e => hs₂.extBut b o (fun q => by rw [q, hL₀] at e; cases e) (F'.keep b o e), F'.above⟩
    refine ⟨m', hn.sameBut hs₂ hCL, fun h'' hs'' => fin D h'' _ (F₂.change hs'' hCL hC₀) (fun p hp => ?_) o1⟩
    have z : h₂.get? p.1 = some p.2 := hs₂.extBut _ _ (N' p hp).2.1 (N' p hp).1
    refine ⟨hs''.extBut _ _ ?_ z, (N' p hp).2⟩
    rcases List.mem_cons.mp hp with rfl | hp
    · exact Ne.symm hCD
    · exact offC p hp
end

end
/-! F8 -/
section
local macro_rules | `(tactic| walk_at $s:str) => `(tactic| k_extra $s)
abbrev PTab (g : Int → Option Int) (n : Nat) (h h' : Heap) (v : Value) : Prop := ∃ l o, v = .ref l ∧ h.get? l = none ∧ h'.get? l = some o ∧ TabO o g n
set_option maxHeartbeats 8000000 in
theorem map_spec0 (c : Array UInt8) (cs : List Int) (t : Tok) (hc : KBw.bInts c = cs) (hb2 : cs.length ≤ 60) :
    Spec 42 3 24 [.bytes c t] [("autofix", .bool false)] (fun _ => True) (PTab (tabAt cs cs.length) cs.length) := by
  intro prog w mean mg mb A env outer A₀ base h₀ L m s Q E B F X T hhd hA hf hke hd hu hpre hret
  obtain ⟨hdl, dp, fr, gd, un⟩ := A
  dsimp only at hhd hA hd hu hpre
  subst hhd hA
  refine wpAny_call ?_
  k_dflt (refine' enterPC ?k1 ?k2 ?k3 ?k5 ?kA ?kF ?kK ?k6 ?k7 ?k8 ?k9 ?kB ?kD ?_ ?c2 ?c3 ?c4; (case kA => exact rfl); (case kF => assumption); (case kK => assumption); (case k1 => k_asm); (case k2 => k_asm); (case k3 => k_asm);  (case k5 => k_asm); (case k6 => k_is); (case k7 => k_is); (case k8 => (try dsimp only); omega); (case k9 => first | exact BindsTo.of_eq rfl | exact binds_K (by k_in) rfl (by k_is) rfl rfl rfl | (refine' kp_binds ?kx ?ke; (case kx => k_in); (case ke => exact fun _ => rfl))); (case kB => exact rfl); (case kD => decide +kernel); (case c2 => exact rfl); (case c3 => exact rfl); (case c4 => exact rfl); k_whole; intro L' h' tk' cells' F' N' Y' B' X' T'; k_cells Y'; (try simp only [List.cons_append, List.nil_append] at N'); (try dsimp only); (try k_lift B'); (try k_fold))
  k_with_none
  k_with "eval DictComp" => (k_dflt ((rename Fr s.heap _ _ _ => FF); (rename News s.heap _ _ _ => NN); refine dict_enum FF NN hc (by omega) rfl (by exact rfl) (by decide) rfl (by decide) rfl rfl (by decide) rfl rfl ?h1 (by intro _; rfl) ?h2; (case h1 => refine Stop.out ?_); (case h2 => intro D oD hD tkD FD ND neD tD)))
  (k_steps; all_goals (repeat (first | (k_unfold; try dsimp only) | dsimp only)))
  k_dflt ((rename Fr s.heap _ _ _ => FF); (rename News s.heap _ _ _ => NN); refine dict_enum (tb := t) FF NN hc (by omega) rfl (by exact rfl) (by decide) rfl (by decide) rfl rfl (by decide) rfl rfl ?h1 (by intro _; rfl) ?h2)
  case h1 =>
    k_with "call type:enumerate" => (k_dflt (refine call_enumerate_bytes ?_; intro hE e1 e2 e3 e4))
    k_steps
    exact ⟨hE, _, rfl, rfl, e1, e2, e3, e4⟩
  intro D oD hD tkD FD ND neD tD
  have neD1 := neD _ (List.mem_cons_self ..)
  dsimp only at neD1
  have neD2 := Ne.symm neD1
  (k_steps; all_goals (repeat (first | (k_unfold; try dsimp only) | dsimp only)))
  rename Fr s.heap _ _ _ => FZ
  rename News s.heap _ _ _ => NZ
  exact hret _ _ _ (Fr.keep FZ) ⟨D, oD, rfl, (NZ (D, oD) (by k_memK)).2.2, (NZ (D, oD) (by k_memK)).1, tD⟩

end
/-! F8b -/
section
local macro_rules | `(tactic| walk_at $s:str) => `(tactic| k_extra $s)
local macro_rules | `(tactic| k_all) => `(tactic| (refine' List.forall_mem_append.mpr ⟨?zka, ?zkb⟩; (case zka => k_all); (case zkb => k_all)))
abbrev gOf {o : Obj} {g : Int → Option Int} {n : Nat} (_ : TabO o g n) : Int → Option Int := g
theorem len_of {ks : List Int} {q : Int → Bool} {ys : List Value} (h : IntsAre ys ((ks.filter q).map fun k => k)) : ys.length = (ks.filter q).length := by
  rw [h.length, List.length_map]
theorem news_rot {h₀ h : Heap} {L : Addr} {p : Addr × Obj} {r : List (Addr × Obj)} (N : News h₀ L h (p :: r)) : News h₀ L h (r ++ [p]) := fun q hq => N q (by
  rcases List.mem_append.mp hq with e | e
  · exact List.mem_cons_of_mem _ e
  · rw [List.mem_singleton.mp e]; exact List.mem_cons_self ..)
theorem headIs {h₀ h : Heap} {L a : Addr} {o : Obj} {r : List (Addr × Obj)} {P : Prop} (_ : News h₀ L h ((a, o) :: r)) (hp : P) : P := hp
theorem natNe {a b : Nat} (h : a ≠ b) : a < b ∨ b < a := by omega
theorem TabO.mono {o : Obj} {g : Int → Option Int} {n k : Nat} (T : TabO o g n) (h : n ≤ k) : TabO o g k := fun h' a e => let ⟨f, M, Z, R⟩ := T h' a e; ⟨f, M, Z.mono h, R⟩
theorem fix_one {G : List Int} {g : Int → Option Int} {x : Int} (h : (G.filter fun c => (g c).isSome).length = 1) (hx : g ((G.filter fun c => (g c).isSome).getD 0 0) = some x) : fixOne G g = putG G x g := by
  rw [fixOne, if_pos h, hx]; rfl
theorem fix_not {G : List Int} {g : Int → Option Int} (h : ¬ (G.filter fun c => (g c).isSome).length = 1) : fixOne G g = g := by rw [fixOne, if_neg h]
theorem piv_some {G : List Int} {g : Int → Option Int} (h : (G.filter fun c => (g c).isSome).length = 1) : ∃ x, g ((G.filter fun c => (g c).isSome).getD 0 0) = some x := by
  have hm : (G.filter fun c => (g c).isSome).getD 0 0 ∈ G.filter fun c => (g c).isSome := by
    cases e : G.filter fun c => (g c).isSome with
    | nil => rw [e] at h; cases h
    | cons a r => exact List.mem_cons_self ..
  exact Option.isSome_iff_exists.mp (List.mem_filter.mp hm).2
set_option maxHeartbeats 8000000 in
theorem map_spec1 (c : Array UInt8) (cs : List Int) (t : Tok) (hc : KBw.bInts c = cs) (hb2 : cs.length ≤ 60) :
    Spec 42 3 24 [.bytes c t] [("autofix", .bool true)] (fun _ => True) (PTab (fixOne h1 (fixOne h0 (tabAt cs cs.length))) (cs.length + 6)) := by
  intro prog w mean mg mb A env outer A₀ base h₀ L m s Q E B F X T hhd hA hf hke hd hu hpre hret
  obtain ⟨hdl, dp, fr, gd, un⟩ := A
  dsimp only at hhd hA hd hu hpre
  subst hhd hA
  refine wpAny_call ?_
  k_dflt (refine' enterPC ?k1 ?k2 ?k3 ?k5 ?kA ?kF ?kK ?k6 ?k7 ?k8 ?k9 ?kB ?kD ?_ ?c2 ?c3 ?c4; (case kA => exact rfl); (case kF => assumption); (case kK => assumption); (case k1 => k_asm); (case k2 => k_asm); (case k3 => k_asm);  (case k5 => k_asm); (case k6 => k_is); (case k7 => k_is); (case k8 => (try dsimp only); omega); (case k9 => first | exact BindsTo.of_eq rfl | exact binds_K (by k_in) rfl (by k_is) rfl rfl rfl | (refine' kp_binds ?kx ?ke; (case kx => k_in); (case ke => exact fun _ => rfl))); (case kB => exact rfl); (case kD => decide +kernel); (case c2 => exact rfl); (case c3 => exact rfl); (case c4 => exact rfl); k_whole; intro L' h' tk' cells' F' N' Y' B' X' T'; k_cells Y'; (try simp only [List.cons_append, List.nil_append] at N'); (try dsimp only); (try k_lift B'); (try k_fold))
  k_with_none
  (k_steps; all_goals (repeat (first | (k_unfold; try dsimp only) | dsimp only)))
  k_dflt ((rename Fr s.heap _ _ _ => FF); (rename News s.heap _ _ _ => NN); refine dict_enum (tb := t) FF NN hc (by omega) rfl (by exact rfl) (by decide) rfl (by decide) rfl rfl (by decide) rfl rfl ?h1 (by intro _; rfl) ?h2)
  case h1 =>
    k_with "call type:enumerate" => (k_dflt (refine call_enumerate_bytes ?_; intro hE e1 e2 e3 e4))
    k_steps
    exact ⟨hE, _, rfl, rfl, e1, e2, e3, e4⟩
  intro D oD hD tkD FD ND neD tD
  have neD1 := neD _ (List.mem_cons_self ..)
  dsimp only at neD1
  have neD2 := Ne.symm neD1
  k_with_none
  k_with "pyIter bytes" => refine Stop.out ?_
  k_with "InvEndN" => refine Stop.out ?_
  k_with "compareOp In int ref" => (k_dflt (refine in_tab (by k_asm) (by k_memK) (by assumption) ?_))
  k_with "call builtin:len" => (k_dflt (refine kst_len (by assumption) (by k_memK) lenL (Int.lt_of_le_of_lt (Int.ofNat_le.mpr (List.length_filter_le _ _)) (by decide)) ?_))
  k_with "exec Assign cons ListComp" => refine Stop.out ?_
  (k_steps; all_goals (repeat (first | (k_unfold; try dsimp only) | dsimp only)))
  refine Stop.mk ?_
  rename Fr s.heap _ _ _ => FC
  rename News s.heap _ _ _ => NC
  (k_dflt (refine comp_bytesA (b := #[48, 79, 111]) (ks := h0) (fun k => (gOf tD k).isSome) (fun k => k) FC NC rfl rfl rfl (by decide) (by with_unfolding_all rfl) (by with_unfolding_all rfl) (by decide) (by rfl) (by decide) (by rfl) (by rfl) (by rfl) (by k_steps) (fun _ => rfl) (fun k C h hk hit tk E' => by (obtain ⟨t, I, oI, oC, D, ys, m₂, hC, hx, F1, N1⟩ := hit); k_steps) (fun k C h hk _ hit tk E' => by (obtain ⟨t, I, oI, oC, D, ys, m₂, hC, hx, F1, N1⟩ := hit); k_steps) ?_; intro DL ysL hL tkL FL NL offL iL; have lenL := len_of iL))
  have offD := offL (D, oD) (by k_memK)
  dsimp only at offD
  have offD2 := Ne.symm offD
  have offI := natNe (offL _ (List.mem_cons_self ..))
  dsimp only at offI
  k_steps
  rotate_left 1
  have tF : TabO oD (fixOne h0 (gOf tD)) (cs.length + 3) := by (rename Ne _ _ => hx9); rw [fix_not (by intro q; exact hx9 (by rw [q]; rfl))]; exact TabO.mono tD (by omega)
  rotate_left 1
  refine Stop.mk ?_
  rename Fr s.heap _ _ _ => FF
  rename News s.heap _ _ _ => NN
  have hl1 : (List.filter (fun k => (gOf tD k).isSome) h0).length = 1 := by omega
  obtain ⟨xv, hxv⟩ := piv_some hl1
  iterate 7 (try ((fail_if_success refine headIs (a := D) NN ?_); (replace NN := news_rot NN); simp only [List.cons_append, List.nil_append] at NN))
  refine loopBd (fun pre (_ : Unit) => putG pre xv (gOf tD)) (cs.length + 0) (fun _ => []) () [] (fun _ _ => True) (ks := h0) rfl rfl FF NN (by exact tD) (by intro p hp; nomatch hp) trivial ?_ ?_
  · clear FF NN
    intro o i pre post x tx u h tk own hks hlo hhi hoff hT hp FF NN
    have hT2 : putG pre xv (gOf tD) ((List.map (fun k => k) (List.filter (fun k => (gOf tD k).isSome) h0)).getD (Int.toNat 0) 0) = some xv := by rw [List.map_id']; exact putG_at hxv
    have hpl : pre.length ≤ 3 := by have := congrArg List.length hks; rw [List.length_append] at this; simp [h0] at this; omega
    k_with "subscriptTail" => (k_dflt (refine item_tab (by k_asm) (by k_memK) hT hT2 ?_; intro tI))
    k_with "subscriptTail Name Subscript ref int" => (k_dflt (refine item_tab (by k_asm) (by k_memK) hT hT2 ?_; intro tI))
    k_with "setItem ref int" => (k_dflt (refine' set_tab ?zF ?zN ?zU hT ?zn ?_; (case zF => k_asm); (case zN => k_asm); (case zU => (refine UpdF.head ?_; (repeat' (refine List.forall_mem_cons.mpr ⟨?_, ?_⟩)); all_goals first | assumption | exact nne (by omega) | (intro p hp; exact hoff p hp D (List.mem_cons_self ..)))); (case zn => omega); k_whole; intro hS oS FS NS TS; (try dsimp only at NS)))
    dsimp only [List.map_cons, List.map_nil, List.cons_append, List.nil_append] at hoff NN
    k_steps
    (refine Stop.mk ?_; (rename Fr s.heap _ _ _ => FF); (rename News s.heap _ _ _ => NN); refine kst_end (σ := Obj × _) (?zo_6, ()) FF NN ?zE1_6 ?zE2_6 rfl ?zE3_6 ?zE4_6 ?zE5_6 ?zE6_6; (case zE1_6 => (dsimp only; refine List.forall_mem_cons.mpr ⟨by k_memK, ?_⟩; intro p hp; kst_mem)); (case zE2_6 => (intro p hp; kst_mem)); (case zE3_6 => first | assumption | trivial); (case zE4_6 => kst_all); (case zE5_6 => (intro z h1 h2 h3; (try simp only [List.forall_mem_cons, List.not_mem_nil, false_implies, implies_true, and_true, ne_eq] at h2); (try simp only [List.contains_cons, List.contains_nil, Bool.or_false, Bool.or_eq_false_iff, beq_eq_false_iff_ne, ne_eq] at h3); first | rfl | (simp [kstB, h1, h2, h3]; done) | (simp [kstB, h1, h3]; done) | (simp [kstB, h1, h2]; done) | (simp [kstB, h1]; done))))
    exact ⟨trivial, by dsimp only; rw [putG_snoc, List.length_append]; exact TS⟩
  clear FF NN
  intro o i u hh tk hT hp FF NN
  have tF : TabO o (fixOne h0 (gOf tD)) (cs.length + 3) := by rw [fix_one hl1 hxv]; exact hT
  clear hT
  k_steps
  · refine Stop.mk ?_
    obtain ⟨G, hG⟩ : ∃ G, G = fixOne h0 (gOf tD) := ⟨_, rfl⟩
    rw [← hG] at tF
    rename Fr s.heap _ _ _ => FC
    rename News s.heap _ _ _ => NC
    (k_dflt (refine comp_bytesA (b := #[73, 108, 49]) (ks := h1) (fun k => (gOf tF k).isSome) (fun k => k) FC NC rfl rfl rfl (by decide) (by with_unfolding_all rfl) (by with_unfolding_all rfl) (by decide) (by rfl) (by decide) (by rfl) (by rfl) (by rfl) (by k_steps) (fun _ => rfl) (fun k C h hk hit tk E' => by (obtain ⟨t, I, oI, oC, D, ys, m₂, hC, hx, F1, N1⟩ := hit); k_steps) (fun k C h hk _ hit tk E' => by (obtain ⟨t, I, oI, oC, D, ys, m₂, hC, hx, F1, N1⟩ := hit); k_steps) ?_; intro DL ysL hL tkL FL NL offL iL; have lenL := len_of iL))
    have offD := offL (D, o) (by k_memK)
    dsimp only at offD
    have offD2 := Ne.symm offD
    have offI := natNe (offL _ (List.mem_cons_self ..))
    dsimp only at offI
    k_steps
    rotate_left 1
    have tG : TabO o (fixOne h1 (gOf tF)) (cs.length + 6) := by (rename Ne _ _ => hx9); rw [fix_not (by intro q; exact hx9 (by rw [q]; rfl))]; exact TabO.mono tF (by omega)
    rotate_left 1
    refine Stop.mk ?_
    rename Fr s.heap _ _ _ => FF
    rename News s.heap _ _ _ => NN
    have hl1 : (List.filter (fun k => (gOf tF k).isSome) h1).length = 1 := by omega
    obtain ⟨xv, hxv⟩ := piv_some hl1
    iterate 7 (try ((fail_if_success refine headIs (a := D) NN ?_); (replace NN := news_rot NN); simp only [List.cons_append, List.nil_append] at NN))
    refine loopBd (fun pre (_ : Unit) => putG pre xv (gOf tF)) (cs.length + 3) (fun _ => []) () [] (fun _ _ => True) (ks := h1) rfl rfl FF NN (by exact tF) (by intro p hp; nomatch hp) trivial ?_ ?_
    · clear FF NN
      intro o i pre post x tx u h tk own hks hlo hhi hoff hT hp FF NN
      have hT2 : putG pre xv (gOf tF) ((List.map (fun k => k) (List.filter (fun k => (gOf tF k).isSome) h1)).getD (Int.toNat 0) 0) = some xv := by rw [List.map_id']; exact putG_at hxv
      have hpl : pre.length ≤ 3 := by have := congrArg List.length hks; rw [List.length_append] at this; simp [h1] at this; omega
      k_with "subscriptTail" => (k_dflt (refine item_tab (by k_asm) (by k_memK) hT hT2 ?_; intro tI))
      k_with "subscriptTail Name Subscript ref int" => (k_dflt (refine item_tab (by k_asm) (by k_memK) hT hT2 ?_; intro tI))
      k_with "setItem ref int" => (k_dflt (refine' set_tab ?zF ?zN ?zU hT ?zn ?_; (case zF => k_asm); (case zN => k_asm); (case zU => (refine UpdF.head ?_; (repeat' (refine List.forall_mem_cons.mpr ⟨?_, ?_⟩)); all_goals first | assumption | exact nne (by omega) | (intro p hp; exact hoff p hp D (List.mem_cons_self ..)))); (case zn => omega); k_whole; intro hS oS FS NS TS; (try dsimp only at NS)))
      dsimp only [List.map_cons, List.map_nil, List.cons_append, List.nil_append] at hoff NN
      k_steps
      (refine Stop.mk ?_; (rename Fr s.heap _ _ _ => FF); (rename News s.heap _ _ _ => NN); refine kst_end (σ := Obj × _) (?zo_7, ()) FF NN ?zE1_7 ?zE2_7 rfl ?zE3_7 ?zE4_7 ?zE5_7 ?zE6_7; (case zE1_7 => (dsimp only; refine List.forall_mem_cons.mpr ⟨by k_memK, ?_⟩; intro p hp; kst_mem)); (case zE2_7 => (intro p hp; kst_mem)); (case zE3_7 => first | assumption | trivial); (case zE4_7 => kst_all); (case zE5_7 => (intro z h1 h2 h3; (try simp only [List.forall_mem_cons, List.not_mem_nil, false_implies, implies_true, and_true, ne_eq] at h2); (try simp only [List.contains_cons, List.contains_nil, Bool.or_false, Bool.or_eq_false_iff, beq_eq_false_iff_ne, ne_eq] at h3); first | rfl | (simp [kstB, h1, h2, h3]; done) | (simp [kstB, h1, h3]; done) | (simp [kstB, h1, h2]; done) | (simp [kstB, h1]; done))))
      exact ⟨trivial, by dsimp only; rw [putG_snoc, List.length_append]; exact TS⟩
    clear FF NN
    intro o i u hh tk hT hp FF NN
    have tG : TabO o (fixOne h1 (gOf tF)) (cs.length + 6) := by rw [fix_one hl1 hxv]; exact hT.mono (by show cs.length + 3 + 3 ≤ _; omega)
    clear hT
    k_steps
    · rename Fr s.heap _ _ _ => FZ
      rename News s.heap _ _ _ => NZ
      subst hG
      exact hret _ _ _ (Fr.keep FZ) ⟨D, o, rfl, (NZ (D, o) (by k_memK)).2.2, (NZ (D, o) (by k_memK)).1, tG⟩
    · rename Fr s.heap _ _ _ => FZ
      rename News s.heap _ _ _ => NZ
      subst hG
      exact hret _ _ _ (Fr.keep FZ) ⟨D, o, rfl, (NZ (D, o) (by k_memK)).2.2, (NZ (D, o) (by k_memK)).1, tG⟩
  · refine Stop.mk ?_
    obtain ⟨G, hG⟩ : ∃ G, G = fixOne h0 (gOf tD) := ⟨_, rfl⟩
    rw [← hG] at tF
    rename Fr s.heap _ _ _ => FC
    rename News s.heap _ _ _ => NC
    (k_dflt (refine comp_bytesA (b := #[73, 108, 49]) (ks := h1) (fun k => (gOf tF k).isSome) (fun k => k) FC NC rfl rfl rfl (by decide) (by with_unfolding_all rfl) (by with_unfolding_all rfl) (by decide) (by rfl) (by decide) (by rfl) (by rfl) (by rfl) (by k_steps) (fun _ => rfl) (fun k C h hk hit tk E' => by (obtain ⟨t, I, oI, oC, D, ys, m₂, hC, hx, F1, N1⟩ := hit); k_steps) (fun k C h hk _ hit tk E' => by (obtain ⟨t, I, oI, oC, D, ys, m₂, hC, hx, F1, N1⟩ := hit); k_steps) ?_; intro DL ysL hL tkL FL NL offL iL; have lenL := len_of iL))
    have offD := offL (D, oD) (by k_memK)
    dsimp only at offD
    have offD2 := Ne.symm offD
    have offI := natNe (offL _ (List.mem_cons_self ..))
    dsimp only at offI
    k_steps
    rotate_left 1
    have tG : TabO oD (fixOne h1 (gOf tF)) (cs.length + 6) := by (rename Ne _ _ => hx9); rw [fix_not (by intro q; exact hx9 (by rw [q]; rfl))]; exact TabO.mono tF (by omega)
    rotate_left 1
    refine Stop.mk ?_
    rename Fr s.heap _ _ _ => FF
    rename News s.heap _ _ _ => NN
    have hl1 : (List.filter (fun k => (gOf tF k).isSome) h1).length = 1 := by omega
    obtain ⟨xv, hxv⟩ := piv_some hl1
    iterate 7 (try ((fail_if_success refine headIs (a := D) NN ?_); (replace NN := news_rot NN); simp only [List.cons_append, List.nil_append] at NN))
    refine loopBd (fun pre (_ : Unit) => putG pre xv (gOf tF)) (cs.length + 3) (fun _ => []) () [] (fun _ _ => True) (ks := h1) rfl rfl FF NN (by exact tF) (by intro p hp; nomatch hp) trivial ?_ ?_
    · clear FF NN
      intro o i pre post x tx u h tk own hks hlo hhi hoff hT hp FF NN
      have hT2 : putG pre xv (gOf tF) ((List.map (fun k => k) (List.filter (fun k => (gOf tF k).isSome) h1)).getD (Int.toNat 0) 0) = some xv := by rw [List.map_id']; exact putG_at hxv
      have hpl : pre.length ≤ 3 := by have := congrArg List.length hks; rw [List.length_append] at this; simp [h1] at this; omega
      k_with "subscriptTail" => (k_dflt (refine item_tab (by k_asm) (by k_memK) hT hT2 ?_; intro tI))
      k_with "subscriptTail Name Subscript ref int" => (k_dflt (refine item_tab (by k_asm) (by k_memK) hT hT2 ?_; intro tI))
      k_with "setItem ref int" => (k_dflt (refine' set_tab ?zF ?zN ?zU hT ?zn ?_; (case zF => k_asm); (case zN => k_asm); (case zU => (refine UpdF.head ?_; (repeat' (refine List.forall_mem_cons.mpr ⟨?_, ?_⟩)); all_goals first | assumption | exact nne (by omega) | (intro p hp; exact hoff p hp D (List.mem_cons_self ..)))); (case zn => omega); k_whole; intro hS oS FS NS TS; (try dsimp only at NS)))
      dsimp only [List.map_cons, List.map_nil, List.cons_append, List.nil_append] at hoff NN
      k_steps
      (refine Stop.mk ?_; (rename Fr s.heap _ _ _ => FF); (rename News s.heap _ _ _ => NN); refine kst_end (σ := Obj × _) (?zo_8, ()) FF NN ?zE1_8 ?zE2_8 rfl ?zE3_8 ?zE4_8 ?zE5_8 ?zE6_8; (case zE1_8 => (dsimp only; refine List.forall_mem_cons.mpr ⟨by k_memK, ?_⟩; intro p hp; kst_mem)); (case zE2_8 => (intro p hp; kst_mem)); (case zE3_8 => first | assumption | trivial); (case zE4_8 => kst_all); (case zE5_8 => (intro z h1 h2 h3; (try simp only [List.forall_mem_cons, List.not_mem_nil, false_implies, implies_true, and_true, ne_eq] at h2); (try simp only [List.contains_cons, List.contains_nil, Bool.or_false, Bool.or_eq_false_iff, beq_eq_false_iff_ne, ne_eq] at h3); first | rfl | (simp [kstB, h1, h2, h3]; done) | (simp [kstB, h1, h3]; done) | (simp [kstB, h1, h2]; done) | (simp [kstB, h1]; done))))
      exact ⟨trivial, by dsimp only; rw [putG_snoc, List.length_append]; exact TS⟩
    clear FF NN
    intro o i u hh tk hT hp FF NN
    have tG : TabO o (fixOne h1 (gOf tF)) (cs.length + 6) := by rw [fix_one hl1 hxv]; exact hT.mono (by show cs.length + 3 + 3 ≤ _; omega)
    clear hT
    k_steps
    · rename Fr s.heap _ _ _ => FZ
      rename News s.heap _ _ _ => NZ
      subst hG
      exact hret _ _ _ (Fr.keep FZ) ⟨D, o, rfl, (NZ (D, o) (by k_memK)).2.2, (NZ (D, o) (by k_memK)).1, tG⟩
    · rename Fr s.heap _ _ _ => FZ
      rename News s.heap _ _ _ => NZ
      subst hG
      exact hret _ _ _ (Fr.keep FZ) ⟨D, oD, rfl, (NZ (D, oD) (by k_memK)).2.2, (NZ (D, oD) (by k_memK)).1, tG⟩

end
/-! Rules10 -/
section
/- --pure -/
section
variable {prog : Program} {w : World} {A : Around} {E : Value → Shared → Prop} {s : Shared}
theorem noIndex_bytes : typeLookup (.type "bytes") "__index__" = pure none := by rw [typeLookup_type, builtinLookup_eq_fast]; kernel_rfl
theorem typeName_bytes : typeName (.type "bytes") = pure "bytes" := by unfold typeName; rw [find?_eq_fast]; kernel_rfl
theorem cut_bytes {n : Nat} {b : Array UInt8} {t : Tok} {Q : String → Shared → Prop} (h : Q "bytes" s) : wpAny (model prog w) A (typeNameOfCut n (.bytes b t)) Q E s := by
  unfold typeNameOfCut shownTypeOf
  refine wpAny_bind (wpAny_bind (wpAny_typeOf (typeIs_bytes _ b t) ?_))
  simp only [show (Value.type "bytes" == Value.type "builtin_function_or_method") = false by decide, Bool.false_eq_true, if_false]
  refine wpAny_pure ?_
  rw [show typeNameCut n (.type "bytes") = typeName (.type "bytes") from rfl, typeName_bytes]
  exact wpAny_pure h
theorem asIndex_bytes {b : Array UInt8} {t : Tok} {Q : Int → Shared → Prop} (hh : A.handled = none) (h : ∀ h' tk e, Heap.NewExc s.heap h' e "TypeError" → E (.ref e) { s with heap := h', toks := tk }) : wpAny (model prog w) A (asIndex (.bytes b t)) Q E s := by
  unfold asIndex
  refine wpAny_bind (wpAny_of_eq (a := none) rfl ?_)
  refine wpAny_bind (wpAny_callSpecial?_none (name := Str.ofString "__index__") (typeIs_bytes s b t) noIndex_bytes ?_)
  refine wpAny_bind (cut_bytes ?_)
  exact wpAny_raiseErrorMade plainExc_TypeError hh h
theorem no_space {b : Array UInt8} {ks : List Int} (hb : KBw.bInts b = ks) (h : 32 ∉ ks) : Builtin.Bytes.find? b #[32] 0 b.size = none := by
  unfold Builtin.Bytes.find?
  rw [List.find?_eq_none]
  intro i hi he
  have e := eq_of_beq he
  have hm : (32 : UInt8) ∈ b.extract i (i + (#[32] : Array UInt8).size) := by rw [e]; simp
  have hm2 : (32 : UInt8) ∈ b := by
    obtain ⟨j, hj, ej⟩ := Array.mem_iff_getElem.mp hm
    rw [Array.getElem_extract] at ej
    rw [← ej]
    exact Array.getElem_mem _
  refine h (hb ▸ ?_)
  unfold KBw.bInts
  rw [List.mem_map]
  exact ⟨32, Array.mem_toList_iff.mpr hm2, rfl⟩
theorem notin_space {b : Array UInt8} {ks : List Int} {t u : Tok} {Q : Value → Shared → Prop} (hh : A.handled = none) (hb : KBw.bInts b = ks) (hn : 32 ∉ ks) (h : ∀ h' tk, s.heap.StaysIn h' → Q (.bool true) { s with heap := h', toks := tk }) :
    wpAny (model prog w) A (compareOp .NotIn (.bytes #[32] u) (.bytes b t)) Q E s := by
  show wpAny _ _ (do return .bool (!(← contains (.bytes b t) (.bytes #[32] u)))) Q E s
  refine wpAny_bind ?_
  unfold contains
  refine wpAny_holding ?_
  refine wpAny_bind (wpAny_specialOf (typeIs_bytes s b t) FB.slot_bytes_contains.lookup ?_)
  rw [if_neg (by decide)]
  refine wpAny_bind (wpAny_callSpecialUnlessNone?_slot (name := Str.ofString "__contains__") (typeIs_bytes s b t) FB.slot_bytes_contains
    (wpAny_call_entry FB.slot_bytes_contains (typeIs_bytes s b t) FB.entry_bytes_contains ?_ (FB.args_bytes_contains_2 _ _)))
  show wpAny _ _ (PySem.Builtin.Bytes.containsIn "bytes.__contains__" (.bytes b t) (.bytes #[32] u) >>= fun r => _) _ _ s
  refine wpAny_bind ?_
  unfold PySem.Builtin.Bytes.containsIn
  refine wpAny_bind (wpAny_attempt (asIndex_bytes hh fun h' tk e ne => ?_))
  refine wpAny_bind (wpAny_of_eq KBy.buffer_eq ?_)
  dsimp only
  refine wpAny_bind (wpAny_of_eq KBy.buffer_eq ?_)
  dsimp only
  refine wpAny_bind (wpAny_rule ?_)
  rw [no_space hb hn]
  exact wpAny_pure (wpAny_pure ⟨_, rfl, wpAny_truthy_bool (wpAny_pure (h h' tk ne.keeps))⟩)
end

end
/-! Rules11 -/
section
/- --pure -/
section
variable {prog : Program} {w : World} {A₀ : Around} {E : Value → Shared → Prop} {s' : Shared} {base g h : Heap} {outer : List Env} {L a e : Addr} {m : Str → Option Value} {name : Str} {scope : Scope} {cd : Value}
  {n : Str} {b₀ : Stmt} {suite : List Stmt} {pos np : Pos} {rest : List ExceptHandler} {Q : Flow → Shared → Prop} {news : List (Addr × Obj)} {KF : Frag}
  {p : Program} {loose : List Str} {mean : ExcName → Option Value} {mg mb : Str → Option Value} {x : Str} {X T' : String}
/-- an exception that has just been made in this very frame, looked at by an `except .. as n` of the same frame, with frames below -/
theorem caught_own (hx' : Heap.NewExc h s'.heap e X) (F : Fr g L h m) (N : News g L h news) (K : Below A₀ base outer g) (XB : KF.In base) (TB : Top p loose mean mg mb base)
    (D : KtsDicts (outer.filterMap (·.frame)) g)
    (ex : nsIn KF mainGlobals x = some none) (hv : bootBuiltins x = some (.type T')) (hn' : x ≠ "__name__")
    (hexc : isSubtype (.type T') (.type "BaseException") = pure true) (hnt : isSubtype (.type ((Manifest.find? T').elim "type" fun y => y.metatype)) (.type "tuple") = pure false) (hsub : isSubtype (.type X) (.type T') = pure true)
    (k : ∀ h' g' tk, KtsTurn (outer.filterMap (·.frame)) g g' → Fr g' L h' (fun y => if y = n then some (.ref e) else m y) → News g' L h' news → Below A₀ base outer g' → KF.In g' → Top p loose mean mg mb g' → KtsDicts (outer.filterMap (·.frame)) g' →
      wpAny (model prog w) ((A₀.deeper (envOf name scope L a cd)).mark (some (.ref e))) (execs (b₀ :: suite) (envOf name scope L a cd))
        (fun f s₄ => wpAny (model prog w) (A₀.deeper (envOf name scope L a cd)) (do bindName (envOf name scope L a cd) n .none; unbindBehindTheSuite (envOf name scope L a cd) n pos) (fun _ s₅ => Q f s₅) E s₄)
        (AsSuiteRaised (model prog w) ((A₀.deeper (envOf name scope L a cd)).mark (some (.ref e))) (envOf name scope L a cd) n pos (notedBy (model prog w) ((A₀.deeper (envOf name scope L a cd)).mark (some (.ref e))) (envOf name scope L a cd) (cameBackBy (model prog w) (A₀.deeper (envOf name scope L a cd)) (envOf name scope L a cd) E)))
        { s' with heap := h', toks := tk })
    (hk : scope.kind = .function := by rfl) (hlo : (envOf name scope L a cd).kindOf n = some .local := by rfl) (hx : (envOf name scope L a cd).kindOf x = some .globalImplicit := by rfl) (hd : (x == ("__debug__" : Str)) = false := by decide) :
    wpAny (model prog w) (A₀.deeper (envOf name scope L a cd)) (noteFrame (.ref e) (envOf name scope L a cd))
      (fun _ s₂ => wpAny (model prog w) (A₀.deeper (envOf name scope L a cd)) (setFlight (.ref e) none) (fun _ s₃ =>
        wpAny (model prog w) (A₀.deeper (envOf name scope L a cd)) (handleBy (.ref e) (envOf name scope L a cd) (.ExceptHandler (some (.Name x np)) (some n) (b₀ :: suite) pos :: rest)) Q E s₃) E s₂) E s' := by
  have K' := K.push (name := name) (a := a) (cd := cd) F hk
  have hin : ∀ env ∈ (envOf name scope L a cd :: outer), ∀ b, env.frame = some b → b ∈ (envOf name scope L a cd :: outer).filterMap (·.frame) := fun env he b hb => List.mem_filterMap.mpr ⟨env, he, hb⟩
  -- what stands but for the frames
  obtain ⟨B, hBdef⟩ : ∃ B, B = hideAll h ((envOf name scope L a cd :: outer).filterMap (·.frame)) := ⟨_, rfl⟩
  have hBG : ∀ b o, h.get? b = some o → b ∉ (envOf name scope L a cd :: outer).filterMap (·.frame) → B.get? b = some o := fun b o q nm => hBdef ▸ hideAll_get _ q nm
  have hof : ∀ b o, B.get? b = some o → h.get? b = some o := fun b o q => of_hideAll _ (hBdef ▸ q)
  have hl : ∀ q ∈ news, B.get? q.1 = some q.2 := fun q hq => by
    refine hBG _ _ (N q hq).1 fun hm => ?_
    rcases kts_mem hm with z | z
    · exact (N q hq).2.1 z
    · obtain ⟨o, ho, _⟩ := (K.frames.mem z).2
      rw [(N q hq).2.2] at ho; cases ho
  obtain ⟨ob, tp, he, hcls, hdat⟩ := hx'.there
  have hen : B.get? e = none := by
    cases q : B.get? e with
    | none => rfl
    | some o => have := hof _ _ q; rw [hx'.new] at this; cases this
  have hfun : s'.heap.FunFrames B (envOf name scope L a cd :: outer) := by
    rw [hBdef]
    exact (funFrames_hide K'.frames hin).of_keeps fun b o hb _ => ⟨o, hx'.keeps b o hb, rfl⟩
  have hL : B.get? L = none := by
    obtain ⟨_, ⟨L', _, hf, hn', _⟩, _⟩ := hfun
    obtain rfl : L = L' := Option.some.inj hf
    exact hn'
  have first : ∀ Q₁ : Unit → Shared → Prop, (∀ h₄, Heap.HeldW B (envOf name scope L a cd :: outer) e (.type X) tp L h₄ → s'.heap.UpToSlots h₄ → Q₁ () { s' with heap := h₄ }) →
      wpAny (model prog w) (A₀.deeper (envOf name scope L a cd)) (noteFrame (.ref e) (envOf name scope L a cd)) Q₁ E s' := by
    intro Q₁ hQ₁
    unfold noteFrame
    simp only [show (envOf name scope L a cd).frame = some L from rfl]
    refine wpAny_bind (wpAny_field he hdat (x := .none) rfl ?_)
    rw [if_neg (show ¬ ((Value.none != Value.none) = true) from by decide)]
    refine wpAny_entryW (a0 := tp) K'.stack hfun rfl he (fun b o hb => hx'.keeps b o (hof _ _ hb)) hen hdat (by simp) rfl fun h' hL' => ?_
    obtain ⟨k1, k2, k3, k4⟩ := hL'
    exact hQ₁ h' ⟨k1, hen, k2, hcls ▸ k3⟩ k4
  have hsm : h.UpToSlots s'.heap := Heap.UpToSlots.of_keeps hx'.keeps
  refine first _ fun h₄ hheld₄ hsm₄ => ?_
  refine wpAny_landsW hheld₄ fun h₅ hheld hsm₅' => ?_
  have hsm₅ := hsm₄.trans hsm₅'
  obtain ⟨g₅, T₅, F₅, K₅⟩ := kts_ground K F hBG hheld.1 (hsm.trans hsm₅)
  obtain ⟨ob, hob, hobc⟩ := hheld.there
  refine wpAny_handleBy_builtin_as (X := X) (T := T') (b := true) hexc hnt hsub (name_B F₅ (XB.keeps K₅.stays) (topRead_of (TB.keeps K₅.stays)) ex hv hn' ⟨rfl, ⟨ob, hob, hobc⟩, ?_⟩ hk hx hd)
  refine lands_againW hheld fun h₆ hfl₆ hsm₆ => ?_
  obtain ⟨g₆, T₆, F₆, K₆⟩ := kts_ground K F hBG hfl₆.1 ((hsm.trans hsm₅).trans hsm₆)
  have Nl : News g₆ L h₆ news := fun q hq => ⟨hfl₆.1 _ _ (hl q hq), (fun z => by have := hl q hq; rw [z, hL] at this; cases this), T₆.none_ _ (N q hq).2.2⟩
  refine stN F₆ Nl (fun h₇ F₇ N₇ => ?_) hk hlo
  exact k h₇ g₆ _ T₆ F₇ N₇ K₆ (XB.keeps K₆.stays) (TB.keeps K₆.stays) (D.turn T₆)
end

end
/-! Rules12 -/
section
/- --pure -/
section
variable {prog : Program} {w : World} {A : Around} {E : Value → Shared → Prop} {s : Shared} {env : Env}
theorem unchain_none {e kE : Addr} {oK : Obj} {vs : Array Value} {Q : Value → Shared → Prop} (hk : s.heap.get? kE = some oK) (hd : oK.data = .fields vs) (h2 : vs[2]? = some .none) (h : Q .none s) :
    wpAny (model prog w) A (runValue (.builtin "proto.unchain" ⟨[.ref e, .ref kE, .ref kE, .bool false], []⟩)) Q E s := by
  refine wpAny_runValue ?_
  refine codeAny_builtin (entryFor_of_tree (by kernel_rfl) : entryFor table "proto.unchain" = some Builtin.«proto.unchain») ?_
  show wpAny _ _ (field (.ref kE) 2 >>= _) _ _ s
  refine wpAny_bind (wpAny_field hk hd h2 ?_)
  rw [if_pos (show (Value.none == Value.none) = true from by decide)]
  refine wpAny_pure ?_
  exact h
set_option maxHeartbeats 8000000 in
theorem raise_from_none {cls : String} (F : ExcRaiseFacts cls) {x c : Sem Value} {kE : Addr} {Q : Flow → Shared → Prop} (hh : A.handled = some (.ref kE))
    (hc : ∀ (Q' : Value → Shared → Prop) s', Q' .none s' → wpAny (model prog w) A c Q' E s')
    (h : wpAny (model prog w) A x (fun v s₁ => ∃ e t oK vs, v = .ref e ∧ s₁.heap.get? e = some { cls := .type cls, data := .fields #[.ref t, .none, .none, .none, .bool false, .none] } ∧ e ≠ kE ∧
      s₁.heap.get? kE = some oK ∧ oK.data = .fields vs ∧ vs[2]? = some .none ∧
      ∀ h', Heap.SameBut e s₁.heap h' → (∃ ob, h'.get? e = some ob ∧ ob.cls = .type cls ∧ ob.data = .fields #[.ref t, .none, .ref kE, .none, .bool true, .none]) → E (.ref e) { s₁ with heap := h' }) E s) :
    wpAny (model prog w) A (raiseStmt env (some x) (some c)) Q E s := by
  unfold raiseStmt
  refine wpAny_bind (wpAny_mono h (fun v s₁ h₁ => ?_) fun _ _ x => x)
  obtain ⟨e, t, oK, vs, rfl, he, hne, hk, hkd, hk2, hE⟩ := h₁
  refine wpAny_bind (wpAny_holding (hc _ _ (wpAny_bind (wpAny_pure ?_))))
  dsimp only
  obtain ⟨hp, g, d, tk, os⟩ := s₁
  have hsub := F.isExc
  have hmeta := F.plainMeta
  repeat (first | refine wpAny_loadPart he ?_ | wp_step)
  unfold raiseNew
  refine wpAny_bind (wpAny_handled ?_)
  rw [hh]
  dsimp only
  rw [if_pos (show (Value.ref kE != Value.ref e) = true from by simp [Ne.symm hne])]
  have hk' : ((hp.update e (Obj.mapFields fun x => x.setIfInBounds 3 Value.none)).update e (Obj.mapFields fun x => x.setIfInBounds 4 (Value.bool true))).get? kE = some oK := by
    rw [Heap.get?_update_other _ _ hne, Heap.get?_update_other _ _ hne]; exact hk
  refine wpAny_bind (wpAny_holding (unchain_none hk' hkd hk2 ?_))
  have he3 : ((hp.update e (Obj.mapFields fun x => x.setIfInBounds 3 Value.none)).update e (Obj.mapFields fun x => x.setIfInBounds 4 (Value.bool true))).get? e = some { cls := .type cls, data := .fields #[.ref t, .none, .none, .none, .bool true, .none] } := by
    have e1 := Heap.get?_update_self (Obj.mapFields fun x => x.setIfInBounds 3 Value.none) he rfl
    exact Heap.get?_update_self (Obj.mapFields fun x => x.setIfInBounds 4 (Value.bool true)) e1 rfl
  unfold updateField
  refine wpAny_bind (wpAny_bind (wpAny_load he3 ?_))
  dsimp only
  rw [if_pos (by simp)]
  refine wpAny_update he3 ?_
  refine wpAny_throw (hE _ ?_ ?_)
  · exact ((Heap.SameBut.update _ _ _).trans (Heap.SameBut.update _ _ _)).trans (Heap.SameBut.update _ _ _)
  · exact ⟨_, Heap.get?_update_self _ he3 rfl, rfl, rfl⟩
end

end
/-! Rules13 -/
section
/- --pure -/
section
variable {M : Model} {A : Around} {E : Value → Shared → Prop} {s : Shared}
/-- the first note of a fresh exception, with what becomes of the exception itself -/
theorem entry_exact {base : Heap} {env : Env} {outer : List Env} {L e : Addr} {oe : Obj} {vs : Array Value} {head a0 : Value} {hadNext : Bool} {Q : Unit → Shared → Prop}
    (hfr : A.frames = some (env :: outer)) (hl : s.heap.FunFrames base (env :: outer)) (hf : env.frame = some L)
    (he : s.heap.get? e = some oe) (hkb : base.StaysIn s.heap) (hen : base.get? e = none) (hd : oe.data = .fields vs) (hsz : 1 < vs.size) (h0 : vs[0]? = some a0)
    (h : ∀ h' T, Heap.NotedW base (env :: outer) e oe.cls a0 (rawInt L) s.heap h' → (∃ oe', h'.get? e = some oe' ∧ oe'.data = .fields (vs.setIfInBounds 1 (.ref T))) → (∃ oT ts, T ≠ e ∧ h'.get? T = some oT ∧ oT.data = .fields ts ∧ 3 < ts.size) → Q () { s with heap := h' }) :
    wpAny M A (do let a ← frameOf env; let pl ← entryPlaceOf L hadNext; let b ← EntryCells.newEntry head a .none (rawInt L) .none pl; setField (.ref e) 1 b) Q E s := by
  have hene : e ∉ (env :: outer).filterMap (·.frame) := fun hm => by
    obtain ⟨_, o, ho, hnf⟩ := hl.mem hm
    rw [he] at ho; injection ho with ho; subst ho; exact hnf vs hd
  refine wpAny_bind (wpAny_frameOf_fun hfr hl hf fun h₁ hs₁ => ?_)
  refine wpAny_bind (wpAny_entryPlaceOf fun pl hpl => ?_)
  unfold EntryCells.newEntry newFields
  refine wpAny_bind (wpAny_newObj_type ?_ (hpl.sizeOk5 _ _ _ _ _))
  have he₁ : h₁.get? e = some oe := (hs₁.2.1 e hene).trans he
  have kb₁ : base.StaysIn h₁ := fun b o hbo => (hs₁.2.1 b fun hm => by rw [(hl.mem hm).1] at hbo; cases hbo).trans (hkb b o hbo)
  generalize hfs : ([head, .ref L, .none, rawInt L, .none] ++ (if pl.isEmpty then List.replicate 6 Value.none else pl) : List Value) = fs
  have hf3 : fs[3]? = some (rawInt L) := by rw [← hfs]; rfl
  have he₂ := Heap.get?_push_of_some (h := h₁) { cls := .type "traceback", dict := none, data := .fields fs.toArray } he₁
  have hTe : h₁.objs.size ≠ e := Nat.ne_of_gt (Heap.lt_size he₁)
  have hd₃ := Obj.data_mapFields hd (·.setIfInBounds 1 (Value.ref h₁.objs.size))
  have he₃ := Heap.get?_update_self (Obj.mapFields (·.setIfInBounds 1 (Value.ref h₁.objs.size))) he₂ (Obj.isFreed_of_fields hd₃)
  have hT₃ := (Heap.get?_update_other (h₁.push { cls := .type "traceback", dict := none, data := .fields fs.toArray })
    (Obj.mapFields (·.setIfInBounds 1 (Value.ref h₁.objs.size))) (Ne.symm hTe)).trans (Heap.get?_push_size h₁ rfl)
  have keep : ∀ b o, b ≠ e → h₁.get? b = some o →
      ((h₁.push { cls := .type "traceback", dict := none, data := .fields fs.toArray }).update e (Obj.mapFields (·.setIfInBounds 1 (Value.ref h₁.objs.size)))).get? b = some o :=
    fun b o hbe hb => by
      rw [Heap.get?_update_other _ _ (Ne.symm hbe)]
      exact Heap.get?_push_of_some _ hb
  have noRecord : ∀ b o, s.heap.get? b = some o → (∀ vs, o.data ≠ .fields vs) → b ≠ e := fun b o hb hnf q => by
    rw [q, he] at hb; injection hb with hb; subst hb; exact hnf vs hd
  have h3 : fs.toArray[3]? = some (rawInt L) := by simpa using hf3
  refine wpAny_setField he₂ hd hsz (h _ h₁.objs.size ?_ ⟨_, he₃, hd₃⟩ ⟨_, _, hTe, hT₃, rfl, (Array.getElem?_eq_some_iff.mp h3).1⟩)
  refine ⟨fun b o hbo => keep b o (fun q => by rw [q, hen] at hbo; cases hbo) (kb₁ b o hbo), hl.of_keeps fun b o hb hnf => ?_, ?_, fun b o hb hnf => ?_⟩
  · obtain ⟨sl, hs⟩ := hs₁.2.2 b o hb
    exact ⟨_, keep b _ (noRecord b o hb hnf) hs, rfl⟩
  · exact ⟨_, _, h₁.objs.size, _, _, he₃, ⟨Obj.cls_mapFields _ _, by rw [Array.getElem?_setIfInBounds_ne (by decide)]; exact h0⟩, hd₃, by simp [hsz], kb₁.fresh, hTe, hT₃, rfl, h3⟩
  · obtain ⟨sl, hs⟩ := hs₁.2.2 b o hb
    exact ⟨sl, keep b _ (noRecord b o hb hnf) hs⟩
end
/-- the exception has no context -/
noncomputable def NoCtx (h : Heap) (e : Addr) : Prop := ∃ oe vs, h.get? e = some oe ∧ oe.data = .fields vs ∧ vs[2]? = some .none
theorem NoCtx.at {h h' : Heap} {e : Addr} (x : NoCtx h e) (k : ∀ o, h.get? e = some o → h'.get? e = some o) : NoCtx h' e := by
  obtain ⟨oe, vs, ho, r⟩ := x
  exact ⟨oe, vs, k _ ho, r⟩
section
variable {M : Model} {A : Around} {E : Value → Shared → Prop} {s : Shared}
theorem flight_exact {base : Heap} {l : List Env} {e : Addr} {cls a0 fl : Value} {Q : Unit → Shared → Prop} (hkb : base.StaysIn s.heap) (hl : s.heap.FunFrames base l) (hen : base.get? e = none) (ht : s.heap.TracedAtW base e cls a0 fl) (hx : NoCtx s.heap e)
    (hQ : ∀ h', Heap.FlyingW base l e cls a0 h' → s.heap.UpToSlots h' → NoCtx h' e → Q () { s with heap := h' }) : wpAny M A (setFlight (.ref e) none) Q E s := by
  obtain ⟨oe, vs, T, oT, ts, he, hcls, hd, h1, hnT, hTe, hT, hdT, h3⟩ := ht
  have hsz3 : 3 < ts.size := (Array.getElem?_eq_some_iff.mp h3).1
  have other : ∀ b, b ≠ T → (s.heap.update T (Obj.mapFields (·.setIfInBounds 3 ((none : Option Addr).elim Value.none fun f => rawInt f)))).get? b = s.heap.get? b :=
    fun b hb => Heap.get?_update_other _ _ (Ne.symm hb)
  have noRecord : ∀ b o, s.heap.get? b = some o → (∀ vs, o.data ≠ .fields vs) → b ≠ T := fun b o hb hnf q => by
    rw [q, hT] at hb; injection hb with hb; subst hb; exact hnf ts hdT
  unfold setFlight
  refine wpAny_bind (wpAny_field he hd h1 ?_)
  rw [if_pos (show (Value.ref T != Value.none) = true from by simp)]
  refine wpAny_setField hT hdT hsz3 (hQ _ ⟨fun b o hbo => (other b fun q => by rw [q, hnT] at hbo; cases hbo).trans (hkb b o hbo), hen,
    hl.of_keeps fun b o hb hnf => ⟨o, (other b (noRecord b o hb hnf)).trans hb, rfl⟩, ?_⟩ (fun b o hb hnf => ⟨o.slots, (other b (noRecord b o hb hnf)).trans hb⟩) (hx.at fun o ho => (other e (Ne.symm hTe)).trans ho))
  exact ⟨oe, vs, T, _, _, (other e (Ne.symm hTe)).trans he, hcls, hd, h1, hnT, hTe, Heap.get?_update_self _ hT (Obj.isFreed_of_fields (Obj.data_mapFields hdT _)), Obj.data_mapFields hdT _, by simp [hsz3]⟩
end

end
/-! Rules14 -/
section
/- --pure -/
section
variable {prog : Program} {w : World} {A₀ : Around} {E : Value → Shared → Prop} {s' : Shared} {base g h : Heap} {outer : List Env} {L a e : Addr} {m : Str → Option Value} {name : Str} {scope : Scope} {cd : Value}
  {n : Str} {b₀ : Stmt} {suite : List Stmt} {pos np : Pos} {rest : List ExceptHandler} {Q : Flow → Shared → Prop} {news : List (Addr × Obj)} {KF : Frag}
  {p : Program} {loose : List Str} {mean : ExcName → Option Value} {mg mb : Str → Option Value} {x : Str} {X T' : String}
/-- an exception that has just been made in this very frame, looked at by an `except .. as n` of the same frame, with frames below -/
theorem caught_ownX (hx' : Heap.NewExc h s'.heap e X) (F : Fr g L h m) (N : News g L h news) (K : Below A₀ base outer g) (XB : KF.In base) (TB : Top p loose mean mg mb base)
    (D : KtsDicts (outer.filterMap (·.frame)) g)
    (ex : nsIn KF mainGlobals x = some none) (hv : bootBuiltins x = some (.type T')) (hn' : x ≠ "__name__")
    (hexc : isSubtype (.type T') (.type "BaseException") = pure true) (hnt : isSubtype (.type ((Manifest.find? T').elim "type" fun y => y.metatype)) (.type "tuple") = pure false) (hsub : isSubtype (.type X) (.type T') = pure true)
    (k : ∀ h' g' tk oe vs, KtsTurn (outer.filterMap (·.frame)) g g' → oe.data = .fields vs → vs[2]? = some .none → Fr g' L h' (fun y => if y = n then some (.ref e) else m y) → News g' L h' ((e, oe) :: news) → Below A₀ base outer g' → KF.In g' → Top p loose mean mg mb g' → KtsDicts (outer.filterMap (·.frame)) g' →
      wpAny (model prog w) ((A₀.deeper (envOf name scope L a cd)).mark (some (.ref e))) (execs (b₀ :: suite) (envOf name scope L a cd))
        (fun f s₄ => wpAny (model prog w) (A₀.deeper (envOf name scope L a cd)) (do bindName (envOf name scope L a cd) n .none; unbindBehindTheSuite (envOf name scope L a cd) n pos) (fun _ s₅ => Q f s₅) E s₄)
        (AsSuiteRaised (model prog w) ((A₀.deeper (envOf name scope L a cd)).mark (some (.ref e))) (envOf name scope L a cd) n pos (notedBy (model prog w) ((A₀.deeper (envOf name scope L a cd)).mark (some (.ref e))) (envOf name scope L a cd) (cameBackBy (model prog w) (A₀.deeper (envOf name scope L a cd)) (envOf name scope L a cd) E)))
        { s' with heap := h', toks := tk })
    (hk : scope.kind = .function := by rfl) (hlo : (envOf name scope L a cd).kindOf n = some .local := by rfl) (hx : (envOf name scope L a cd).kindOf x = some .globalImplicit := by rfl) (hd : (x == ("__debug__" : Str)) = false := by decide) :
    wpAny (model prog w) (A₀.deeper (envOf name scope L a cd)) (noteFrame (.ref e) (envOf name scope L a cd))
      (fun _ s₂ => wpAny (model prog w) (A₀.deeper (envOf name scope L a cd)) (setFlight (.ref e) none) (fun _ s₃ =>
        wpAny (model prog w) (A₀.deeper (envOf name scope L a cd)) (handleBy (.ref e) (envOf name scope L a cd) (.ExceptHandler (some (.Name x np)) (some n) (b₀ :: suite) pos :: rest)) Q E s₃) E s₂) E s' := by
  have K' := K.push (name := name) (a := a) (cd := cd) F hk
  have hin : ∀ env ∈ (envOf name scope L a cd :: outer), ∀ b, env.frame = some b → b ∈ (envOf name scope L a cd :: outer).filterMap (·.frame) := fun env he b hb => List.mem_filterMap.mpr ⟨env, he, hb⟩
  -- what stands but for the frames
  obtain ⟨B, hBdef⟩ : ∃ B, B = hideAll h ((envOf name scope L a cd :: outer).filterMap (·.frame)) := ⟨_, rfl⟩
  have hBG : ∀ b o, h.get? b = some o → b ∉ (envOf name scope L a cd :: outer).filterMap (·.frame) → B.get? b = some o := fun b o q nm => hBdef ▸ hideAll_get _ q nm
  have hof : ∀ b o, B.get? b = some o → h.get? b = some o := fun b o q => of_hideAll _ (hBdef ▸ q)
  have hl : ∀ q ∈ news, B.get? q.1 = some q.2 := fun q hq => by
    refine hBG _ _ (N q hq).1 fun hm => ?_
    rcases kts_mem hm with z | z
    · exact (N q hq).2.1 z
    · obtain ⟨o, ho, _⟩ := (K.frames.mem z).2
      rw [(N q hq).2.2] at ho; cases ho
  obtain ⟨ob, tp, he, hcls, hdat⟩ := hx'.there
  have hen : B.get? e = none := by
    cases q : B.get? e with
    | none => rfl
    | some o => have := hof _ _ q; rw [hx'.new] at this; cases this
  have hfun : s'.heap.FunFrames B (envOf name scope L a cd :: outer) := by
    rw [hBdef]
    exact (funFrames_hide K'.frames hin).of_keeps fun b o hb _ => ⟨o, hx'.keeps b o hb, rfl⟩
  have hL : B.get? L = none := by
    obtain ⟨_, ⟨L', _, hf, hn', _⟩, _⟩ := hfun
    obtain rfl : L = L' := Option.some.inj hf
    exact hn'
  have first : ∀ Q₁ : Unit → Shared → Prop, (∀ h₄, Heap.HeldW B (envOf name scope L a cd :: outer) e (.type X) tp L h₄ → s'.heap.UpToSlots h₄ → NoCtx h₄ e → Q₁ () { s' with heap := h₄ }) →
      wpAny (model prog w) (A₀.deeper (envOf name scope L a cd)) (noteFrame (.ref e) (envOf name scope L a cd)) Q₁ E s' := by
    intro Q₁ hQ₁
    unfold noteFrame
    simp only [show (envOf name scope L a cd).frame = some L from rfl]
    refine wpAny_bind (wpAny_field he hdat (x := .none) rfl ?_)
    rw [if_neg (show ¬ ((Value.none != Value.none) = true) from by decide)]
    refine entry_exact (a0 := tp) K'.stack hfun rfl he (fun b o hb => hx'.keeps b o (hof _ _ hb)) hen hdat (by simp) rfl fun h' T hL' hXe _ => ?_
    obtain ⟨k1, k2, k3, k4⟩ := hL'
    obtain ⟨oe', x1, x2⟩ := hXe
    exact hQ₁ h' ⟨k1, hen, k2, hcls ▸ k3⟩ k4 ⟨oe', _, x1, x2, rfl⟩
  have hsm : h.UpToSlots s'.heap := Heap.UpToSlots.of_keeps hx'.keeps
  refine first _ fun h₄ hheld₄ hsm₄ hnc₄ => ?_
  refine flight_exact hheld₄.1 hheld₄.2.2.1 hheld₄.2.1 hheld₄.2.2.2 hnc₄ fun h₅ hheld hsm₅' hnc₅ => ?_
  have hsm₅ := hsm₄.trans hsm₅'
  obtain ⟨g₅, T₅, F₅, K₅⟩ := kts_ground K F hBG hheld.1 (hsm.trans hsm₅)
  obtain ⟨ob, hob, hobc⟩ := hheld.there
  refine wpAny_handleBy_builtin_as (X := X) (T := T') (b := true) hexc hnt hsub (name_B F₅ (XB.keeps K₅.stays) (topRead_of (TB.keeps K₅.stays)) ex hv hn' ⟨rfl, ⟨ob, hob, hobc⟩, ?_⟩ hk hx hd)
  refine flight_exact hheld.1 hheld.2.2.1 hheld.2.1 hheld.2.2.2.at hnc₅ fun h₆ hfl₆ hsm₆ hnc₆ => ?_
  obtain ⟨g₆, T₆, F₆, K₆⟩ := kts_ground K F hBG hfl₆.1 ((hsm.trans hsm₅).trans hsm₆)
  have Nl : News g₆ L h₆ news := fun q hq => ⟨hfl₆.1 _ _ (hl q hq), (fun z => by have := hl q hq; rw [z, hL] at this; cases this), T₆.none_ _ (N q hq).2.2⟩
  obtain ⟨oe6, vs6, y1, y2, y3⟩ := hnc₆
  have heL : e ≠ L := fun q => by
    obtain ⟨o, es, ep, ho, _⟩ := F.ns
    have := hx'.new
    rw [q, ho] at this; cases this
  have hge : g.get? e = none := kts_none F.keep hx'.new
  have Nl2 : News g₆ L h₆ ((e, oe6) :: news) := fun q hq => by
    rcases List.mem_cons.mp hq with rfl | hq
    · exact ⟨y1, heL, T₆.none_ _ hge⟩
    · exact Nl q hq
  refine stN F₆ Nl2 (fun h₇ F₇ N₇ => ?_) hk hlo
  exact k h₇ g₆ _ oe6 vs6 T₆ y2 y3 F₇ N₇ K₆ (XB.keeps K₆.stays) (TB.keeps K₆.stays) (D.turn T₆)
end

end
/-! Rules15 -/
section
/- --pure -/
section
variable {prog : Program} {w : World} {A : Around} {E : Value → Shared → Prop} {s : Shared} {env : Env}
noncomputable def FromNone (h h' : Heap) (e : Addr) (cls : String) (kE : Addr) : Prop :=
  (∀ b o, h.get? b = some o → h'.get? b = some o) ∧ h.get? e = none ∧ ∃ ob t, h'.get? e = some ob ∧ ob.cls = .type cls ∧ ob.data = .fields #[.ref t, .none, .ref kE, .none, .bool true, .none]
theorem Raise_from0 {cls newId initId : String} (FC : ExcCallFacts cls newId initId) (FR : ExcRaiseFacts cls) {x : Str} {np cpos pos kp : Pos} {ck : Nat} {kE : Addr} {oK : Obj} {vs : Array Value} {Q : Flow → Shared → Prop} (hh : A.handled = some (.ref kE))
    (hk : s.heap.get? kE = some oK) (hd : oK.data = .fields vs) (h2 : vs[2]? = some .none)
    (h : wpAny (model prog w) A (eval (.Name x np) env) (fun f s₁ => f = .type cls ∧ s₁.heap = s.heap ∧ ∀ h' e, FromNone s₁.heap h' e cls kE → E (.ref e) { s₁ with heap := h' }) E s) :
    wpAny (model prog w) A (exec (.Raise (some (.Call (.Name x np) [] [] cpos)) (some (.Constant .none ck kp)) pos) env) Q E s := by
  rw [arm_exec_Raise]
  refine wpAny_bind (wpAny_standAt (raise_from_none FR hh ?_ ?_))
  · intro Q' s' hQ'
    exact wpAny_bind (wpAny_mono (show wpAny _ _ (eval (.Constant .none ck kp) env) (fun v s₂ => v = .none ∧ s₂ = s') _ s' from fun _ _ _ => ⟨rfl, rfl⟩) (fun v s₂ ⟨e1, e2⟩ => by subst e1 e2; exact wpAny_bind (wpAny_standAt (wpAny_pure hQ'))) fun _ _ y => y)
  · refine wpAny_bind (wpAny_Call_ofName (wpAny_mono h (fun f s₁ h₁ => ?_) fun _ _ x => x))
    obtain ⟨rfl, hs, h₁⟩ := h₁
    refine callWith_excType rfl (evalArgs_empty ?_)
    obtain ⟨hp, g, d, tk, os⟩ := s₁
    refine wpAny_call_exc FC (hrest := Nat.zero_le _) fun h' e hm => ?_
    obtain ⟨t, ht, _, _⟩ := hm.there
    dsimp only at hs
    have hkp : hp.get? kE = some oK := by rw [hs]; exact hk
    have hne : e ≠ kE := fun q => by have := hm.new; rw [q, hkp] at this; cases this
    refine wpAny_bind (wpAny_standAt (wpAny_pure ⟨e, t, oK, vs, rfl, ht, hne, hm.keeps _ _ hkp, hd, h2, fun h'' hs'' hob => h₁ h'' e ⟨fun b o hb => ?_, hm.new, ?_⟩⟩))
    · refine hs''.extBut b o (fun q => ?_) (hm.keeps b o hb)
      have := hm.new; rw [← q, hb] at this; cases this
    · obtain ⟨ob, y1, y2, y3⟩ := hob
      exact ⟨ob, t, y1, y2, y3⟩
end

end
/-! Rules16 -/
section
/- --pure -/
theorem funFrames_set {h h' base : Heap} {L : Addr} {m' : Str → Option Value} (hs : Heap.SameBut L h h') (hn : h'.Ns L m') : ∀ {l : List Env}, h.FunFrames base l → h'.FunFrames base l
  | [], _ => trivial
  | env :: rest, hl => by
    obtain ⟨hm, ⟨L', o, hf, hb, ho, hnf⟩, hr⟩ := hl
    refine ⟨hm, ?_, funFrames_set hs hn hr⟩
    by_cases q : L' = L
    · subst q
      obtain ⟨o', es, ep, ho', hd', _⟩ := hn
      exact ⟨L', o', hf, hb, ho', fun vs e => by rw [hd'] at e; cases e⟩
    · exact ⟨L', o, hf, hb, (hs.2 _ q).trans ho, hnf⟩

end
/-! Rules17 -/
section
/- --pure -/
section
variable {M : Model} {A : Around} {E : Value → Shared → Prop} {s : Shared}
theorem setFlight_againW {base : Heap} {l : List Env} {e L : Addr} {cls a0 : Value} {Q : Unit → Shared → Prop} (R : Heap.HeldW base l e cls a0 L s.heap)
    (h : ∀ h', Heap.HeldW base l e cls a0 L h' → s.heap.UpToSlots h' → Q () { s with heap := h' }) :
    wpAny M A (do
      if (← field (.ref e) 1) == .none then unsupported "frame.own-activation:exception-without-traceback"
      setFlight (.ref e) (some L)) Q E s ∧ wpAny M A (setFlight (.ref e) (some L)) Q E s := by
  obtain ⟨hkb, hen, hl, oe, vs, T, oT, ts, he, hcls, hd, h1, hnT, hTe, hT, hdT, h3⟩ := R
  have hsz3 : 3 < ts.size := (Array.getElem?_eq_some_iff.mp h3).1
  have other : ∀ b, b ≠ T → (s.heap.update T (Obj.mapFields (·.setIfInBounds 3 ((some L).elim Value.none fun f => rawInt f)))).get? b = s.heap.get? b :=
    fun b hb => Heap.get?_update_other _ _ (Ne.symm hb)
  have noRecord : ∀ b o, s.heap.get? b = some o → (∀ vs, o.data ≠ .fields vs) → b ≠ T := fun b o hb hnf q => by
    rw [q, hT] at hb; injection hb with hb; subst hb; exact hnf ts hdT
  have main : wpAny M A (setFlight (.ref e) (some L)) Q E s := by
    unfold setFlight
    refine wpAny_bind (wpAny_field he hd h1 ?_)
    rw [if_pos (show (Value.ref T != Value.none) = true from by simp)]
    refine wpAny_setField hT hdT hsz3 (h _ ⟨fun b o hbo => (other b fun q => by rw [q, hnT] at hbo; cases hbo).trans (hkb b o hbo), hen,
      hl.of_keeps fun b o hb hnf => ⟨o, (other b (noRecord b o hb hnf)).trans hb, rfl⟩, ?_⟩ fun b o hb hnf => ⟨o.slots, (other b (noRecord b o hb hnf)).trans hb⟩)
    exact ⟨oe, vs, T, _, _, (other e (Ne.symm hTe)).trans he, hcls, hd, h1, hnT, hTe, Heap.get?_update_self _ hT (Obj.isFreed_of_fields (Obj.data_mapFields hdT _)), Obj.data_mapFields hdT _, by simp [hsz3]⟩
  refine ⟨?_, main⟩
  refine wpAny_bind (wpAny_field he hd h1 ?_)
  rw [if_neg (show ¬ ((Value.ref T == Value.none) = true) from by simp)]
  first
    | exact wpAny_bind (wpAny_pure main)
    | exact main
end
noncomputable def AsHeld (base G : Heap) (env : Env) (outer : List Env) (L e : Addr) (cls : String) (h : Heap) : Prop :=
  ∃ B a0, base.StaysIn B ∧ (∀ b o, G.get? b = some o → b ∉ outer.filterMap (·.frame) → B.get? b = some o) ∧ Heap.HeldW B (env :: outer) e (.type cls) a0 L h ∧ G.UpToSlots h
section
variable {prog : Program} {w : World} {A₀ : Around} {E : Value → Shared → Prop} {s : Shared} {base g h : Heap} {outer : List Env} {L a e kE : Addr} {m : Str → Option Value} {name : Str} {scope : Scope} {cd : Value} {n : Str} {pos : Pos} {cls : String} {hv : Option Value}
theorem as_tail (K : Below A₀ base outer g) (F : Fr g L h m) (X : FromNone h s.heap e cls kE)
    (hQ : ∀ h' tk, AsHeld base g (envOf name scope L a cd) outer L e cls h' → E (.ref e) { s with heap := h', toks := tk })
    (hk : scope.kind = .function := by rfl) (hlo : (envOf name scope L a cd).kindOf n = some .local := by rfl) (hp : ((envOf name scope L a cd).scope.kind == .class || ((envOf name scope L a cd).scope.kind == .module && (envOf name scope L a cd).locals != (envOf name scope L a cd).globals)) = false := by rfl) :
    AsSuiteRaised (model prog w) ((A₀.deeper (envOf name scope L a cd)).mark hv) (envOf name scope L a cd) n pos (notedBy (model prog w) ((A₀.deeper (envOf name scope L a cd)).mark hv) (envOf name scope L a cd) (cameBackBy (model prog w) (A₀.deeper (envOf name scope L a cd)) (envOf name scope L a cd) E)) (.ref e) s := by
  have K' := K.push (name := name) (a := a) (cd := cd) F hk
  have hin : ∀ env ∈ (envOf name scope L a cd :: outer), ∀ b, env.frame = some b → b ∈ (envOf name scope L a cd :: outer).filterMap (·.frame) := fun env he b hb => List.mem_filterMap.mpr ⟨env, he, hb⟩
  obtain ⟨B, hBdef⟩ : ∃ B, B = hideAll h ((envOf name scope L a cd :: outer).filterMap (·.frame)) := ⟨_, rfl⟩
  have hBG : ∀ b o, h.get? b = some o → b ∉ (envOf name scope L a cd :: outer).filterMap (·.frame) → B.get? b = some o := fun b o q nm => hBdef ▸ hideAll_get _ q nm
  have hof : ∀ b o, B.get? b = some o → h.get? b = some o := fun b o q => of_hideAll _ (hBdef ▸ q)
  have hB : base.StaysIn B := fun b o q => hBG b o (K'.stays b o q) fun hm => by
    rw [(K'.frames.mem hm).1] at q; cases q
  have sg : ∀ b o, g.get? b = some o → b ∉ outer.filterMap (·.frame) → B.get? b = some o := fun b o q nm => hBG b o (F.keep b o q) fun hm => by
    rcases kts_mem hm with z | z
    · rw [z, kts_self F] at q
      cases q
    · exact nm z
  obtain ⟨Xk, Xn, ob, t, he, hcls, hdat⟩ := X
  have hen : B.get? e = none := by
    cases q : B.get? e with
    | none => rfl
    | some o => have := hof _ _ q; rw [Xn] at this; cases this
  have hfun : s.heap.FunFrames B (envOf name scope L a cd :: outer) := by
    rw [hBdef]
    exact (funFrames_hide K'.frames hin).of_keeps fun b o hb _ => ⟨o, Xk b o hb, rfl⟩
  have hL : B.get? L = none := by
    obtain ⟨_, ⟨L', _, hf, hn', _⟩, _⟩ := hfun
    obtain rfl : L = L' := Option.some.inj hf
    exact hn'
  have heL : e ≠ L := fun q => by
    obtain ⟨o, es, ep, ho, _⟩ := F.ns
    rw [q, ho] at Xn; cases Xn
  have gup : ∀ {h₁ : Heap}, s.heap.UpToSlots h₁ → g.UpToSlots h₁ := fun u => ((Heap.UpToSlots.of_keeps F.keep).trans (Heap.UpToSlots.of_keeps Xk)).trans u
  show wpAny _ _ (noteFrame (.ref e) (envOf name scope L a cd)) _ _ s
  unfold noteFrame
  simp only [show (envOf name scope L a cd).frame = some L from rfl]
  refine wpAny_bind (wpAny_field he hdat (x := .none) rfl ?_)
  rw [if_neg (show ¬ ((Value.none != Value.none) = true) from by decide)]
  refine wpAny_entryW (a0 := .ref t) K'.stack hfun rfl he (fun b o hb => Xk b o (hof _ _ hb)) hen hdat (by simp) rfl fun h₁ hN => ?_
  obtain ⟨k1, k2, k3, k4⟩ := hN
  rw [hcls] at k3
  have hns : h₁.Ns L m := Heap.UpToSlots.ns k4 ((F.keeps Xk).ns)
  refine wpAny_nameGoes hlo hns hp fun h₂ m₂ hn₂ hs₂ => ?_
  have hs₂ : Heap.SameBut L h₁ h₂ := hs₂
  have hn₂ : h₂.Ns L m₂ := hn₂
  have hheld : Heap.HeldW B (envOf name scope L a cd :: outer) e (.type cls) (.ref t) L h₂ := by
    refine ⟨fun b o hb => (hs₂.2 b fun q => by rw [q, hL] at hb; cases hb).trans (k1 b o hb), hen, funFrames_set hs₂ hn₂ k2, ?_⟩
    obtain ⟨oe, vs, T, oT, ts, y1, y2, y3, y4, y5, y6, y7, y8, y9⟩ := k3
    refine ⟨oe, vs, T, oT, ts, (hs₂.2 e heL).trans y1, y2, y3, y4, y5, y6, (hs₂.2 T fun q => ?_).trans y7, y8, y9⟩
    obtain ⟨o, es, ep, ho, hd, _⟩ := hns
    rw [q, ho] at y7
    cases y7
    rw [hd] at y8
    cases y8
  have hup : g.UpToSlots h₂ := fun b o hb hnf => by
    obtain ⟨sl, hsl⟩ := gup k4 b o hb hnf
    exact ⟨sl, (hs₂.2 b fun q => by rw [q, kts_self F] at hb; cases hb).trans hsl⟩
  obtain ⟨_, _, _, oe, ws, T, oT, ts, ye, yc, yd, y1, _⟩ := id hheld
  unfold PySem.passOn
  refine wpAny_bind (wpAny_field ye yd y1 ?_)
  rw [if_neg (show ¬ ((Value.ref T == Value.none) = true) from by simp)]
  have tail : ∀ s₁ : Shared, Heap.HeldW B (envOf name scope L a cd :: outer) e (.type cls) (.ref t) L s₁.heap → s₁ = { s with heap := s₁.heap, toks := s₁.toks } → g.UpToSlots s₁.heap →
      notedBy (model prog w) ((A₀.deeper (envOf name scope L a cd)).mark hv) (envOf name scope L a cd) (cameBackBy (model prog w) (A₀.deeper (envOf name scope L a cd)) (envOf name scope L a cd) E) (.ref e) s₁ := by
    intro s₁ H₁ hs₁ u₁
    refine wpAny_noteFrame_againW rfl H₁.2.2.2 ?_
    refine (setFlight_againW H₁ fun h₃ H₃ u₃ => ?_).1
    rw [hs₁]
    exact hQ h₃ _ ⟨B, _, hB, sg, H₃, u₁.trans u₃⟩
  have last := (setFlight_againW (M := model prog w) (A := (A₀.deeper (envOf name scope L a cd)).mark hv) (E := notedBy (model prog w) ((A₀.deeper (envOf name scope L a cd)).mark hv) (envOf name scope L a cd) (cameBackBy (model prog w) (A₀.deeper (envOf name scope L a cd)) (envOf name scope L a cd) E)) (Q := fun _ s' => notedBy (model prog w) ((A₀.deeper (envOf name scope L a cd)).mark hv) (envOf name scope L a cd) (cameBackBy (model prog w) (A₀.deeper (envOf name scope L a cd)) (envOf name scope L a cd) E) (.ref e) s') (s := { s with heap := h₂, toks := s.toks + 1 }) hheld fun h₃ H₃ u₃ => tail { s with heap := h₃, toks := s.toks + 1 } H₃ rfl (hup.trans u₃)).2
  first
    | exact wpAny_bind (wpAny_pure (wpAny_bind (wpAny_mono last (fun _ _ x => wpAny_throw x) fun _ _ x => x)))
    | exact wpAny_bind (wpAny_mono last (fun _ _ x => wpAny_throw x) fun _ _ x => x)
theorem leave_tail {s₀ : Heap} {Q : Unit → Shared → Prop} (R : AsHeld base g (envOf name scope L a cd) outer L e cls s.heap) (T : KtsTurn (outer.filterMap (·.frame)) s₀ g)
    (hQ : ∀ h', RaisedSN base s₀ outer e (.type cls) [] h' → s₀.UpToSlots h' → Q () { s with heap := h' }) :
    wpAny (model prog w) (A₀.deeper (envOf name scope L a cd)) (leaving (envOf name scope L a cd) (.ref e)) Q E s := by
  obtain ⟨B, a0, hB, hBG, hh, hup⟩ := R
  have tup : s₀.UpToSlots g := fun b o hb _ => by
    obtain ⟨sl, z⟩ := T.up hb
    exact ⟨sl, z⟩
  unfold leaving
  refine wpAny_bind (wpAny_noteFrame_againW rfl hh.2.2.2 ?_)
  refine wpAny_landsW hh fun h' hfl u => ?_
  obtain ⟨k1, k2, ⟨_, _, k3⟩, k4⟩ := hfl
  exact hQ h' ⟨B, a0, hB, fun b o q nm => hBG b o (T.other b o q nm) nm, fun q hq => (nomatch hq), k1, k2, k3, k4⟩ ((tup.trans hup).trans u)
end

end
/-! F9 -/
section
local macro_rules | `(tactic| walk_at $s:str) => `(tactic| k_extra $s)
structure DeepOK (w : World) (mean : ExcName → Option Value) (mg mb : Str → Option Value) (base : Heap) (outer : List Env) (h₀ : Heap) : Prop where
  inb : (hd.heap_39 w.params).In base
  top : TT mean mg mb base
  dicts : KtsDicts (outer.filterMap (·.frame)) h₀
/-- like Spec, where the def may raise a ValueError -/
noncomputable def SpecR (f : Addr) (n u : Nat) (vs : List Value) (kw : List (Str × Value)) (Post : Option (Heap → Heap → Value → Prop)) : Prop :=
  ∀ (prog : Program) (w : World) (mean : ExcName → Option Value) (mg mb : Str → Option Value) (A : Around) (env : Env) (outer : List Env) (A₀ : Around) (base h₀ : Heap) (L : Addr) (m : Str → Option Value) (s : Shared) (Q E : Value → Shared → Prop),
    Below A₀ base outer h₀ → Fr h₀ L s.heap m → (hd.heap_39 w.params).In h₀ → TT mean mg mb h₀ → A.handled = none → A.frames = some (env :: outer) → env.frame = some L → env.scope.kind = .function → A.depth + n < recursionLimit → A.units + u < cLine →
    DeepOK w mean mg mb base outer h₀ →
    (∀ P, Post = some P → ∀ v h' tk', s.heap.StaysIn h' → P s.heap h' v → Q v { s with heap := h', toks := tk' }) →
    (Post = none → ∀ e h' tk', RaisedSN base s.heap (env :: outer) e (.type "ValueError") [] h' → s.heap.UpToSlots h' → E (.ref e) { s with heap := h', toks := tk' }) →
    wpAny (model prog w) A (call (.ref f) vs kw) Q E s
theorem kts_cons {h₀ h : Heap} {L : Addr} {m : Str → Option Value} {env : Env} {outer : List Env} (D : KtsDicts (outer.filterMap (·.frame)) h₀) (F : Fr h₀ L h m) (hf : env.frame = some L) : KtsDicts ((env :: outer).filterMap (·.frame)) h := by
  intro b hm
  rw [List.filterMap_cons, hf] at hm
  rcases List.mem_cons.mp hm with rfl | hm
  · obtain ⟨o, es, ep, ho, hd, _⟩ := F.ns
    exact ⟨o, es, ep, ho, hd⟩
  · obtain ⟨o, es, n, ho, hd⟩ := D b hm
    exact ⟨o, es, n, F.keep _ _ ho, hd⟩
noncomputable def tabF (f : Bool) (cs : List Int) : Int → Option Int := if f then fixOne h1 (fixOne h0 (tabAt cs cs.length)) else tabAt cs cs.length
theorem map_spec (c : Array UInt8) (cs : List Int) (t : Tok) (f : Bool) (hc : KBw.bInts c = cs) (hb2 : cs.length ≤ 60) :
    Spec 42 3 24 [.bytes c t] [("autofix", .bool f)] (fun _ => True) (PTab (tabF f cs) (cs.length + 6)) := by
  cases f with
  | false =>
    intro prog w mean mg mb A env outer A₀ base h₀ L m s Q E B F X T hhd hA hf hke hd hu hpre hret
    exact map_spec0 c cs t hc hb2 prog w mean mg mb A env outer A₀ base h₀ L m s Q E B F X T hhd hA hf hke hd hu hpre fun v h' tk' st ⟨l, o, e1, e2, e3, T⟩ => hret v h' tk' st ⟨l, o, e1, e2, e3, T.mono (by omega)⟩
  | true => exact map_spec1 c cs t hc hb2
section
variable {prog : Program} {w : World} {mean : ExcName → Option Value} {mg mb : Str → Option Value} {A : Around} {env : Env} {outer : List Env} {A₀ : Around} {base h₀ : Heap} {L : Addr} {m : Str → Option Value} {s : Shared} {Q E : Value → Shared → Prop} {news : List (Addr × Obj)}
  {f : Addr} {n u : Nat} {vs : List Value} {kw : List (Str × Value)} {Pre : Heap → Prop}
theorem use_tab {g : Int → Option Int} {j : Nat} (H : Spec f n u vs kw Pre (PTab g j)) (B : Below A₀ base outer h₀) (F : Fr h₀ L s.heap m) (X : (hd.heap_39 w.params).In h₀) (T : TT mean mg mb h₀) (N : News h₀ L s.heap news)
    (hh : A.handled = none) (hA : A.frames = some (env :: outer)) (hf : env.frame = some L) (hke : env.scope.kind = .function) (hd : A.depth + n < recursionLimit) (hu : A.units + u < cLine) (hpre : Pre s.heap)
    (k : ∀ l o h' tk', (∀ q ∈ news, q.1 ≠ l) → TabO o g j → Fr h₀ L h' m → News h₀ L h' ((l, o) :: news) → Q (.ref l) { s with heap := h', toks := tk' }) : wpAny (model prog w) A (call (.ref f) vs kw) Q E s :=
  H _ _ _ _ _ _ _ _ _ _ _ _ _ _ _ _ B F X T hh hA hf hke hd hu hpre fun _ h' tk' st ⟨l, o, e, hs, hl, hi⟩ => e ▸ k l o h' tk' (fun q hq z => by have := (N q hq).1; rw [z, hs] at this; cases this) hi (fr_stays F st) fun q hq => by
    rcases List.mem_cons.mp hq with rfl | hq
    · refine ⟨hl, fun z => ?_, ?_⟩
      · obtain ⟨o, es, ep, ho, _⟩ := F.ns
        dsimp only at z
        rw [z] at hs
        rw [hs] at ho
        cases ho
      · cases e : h₀.get? l with
        | none => rfl
        | some o => have := F.keep _ _ e; rw [hs] at this; cases this
    · exact news_stays N st q hq
end
noncomputable def decS (g : Int → Option Int) (n : Int) (acc : Option Int) (k : Int) : Option Int := acc.bind fun a => (g k).map fun d => a * n + d
noncomputable def decF (g : Int → Option Int) (n : Int) (ks : List Int) : Option Int := ks.foldl (decS g n) (some 0)
theorem decF_snoc {g : Int → Option Int} {n : Int} {pre : List Int} {k a d : Int} (h : decF g n pre = some a) (hk : g k = some d) : decF g n (pre ++ [k]) = some (a * n + d) := by
  unfold decF at h ⊢
  rw [List.foldl_append, h]
  simp [decS, hk]
theorem decS_none {g : Int → Option Int} {n : Int} : ∀ post : List Int, post.foldl (decS g n) none = none
  | [] => rfl
  | _ :: r => decS_none r
theorem decF_none {g : Int → Option Int} {n : Int} {pre post : List Int} {k a : Int} (h : decF g n pre = some a) (hk : g k = none) : decF g n (pre ++ k :: post) = none := by
  unfold decF at h ⊢
  rw [List.foldl_append, h, List.foldl_cons]
  rw [show decS g n (some a) k = none by simp [decS, hk]]
  exact decS_none post
set_option maxHeartbeats 8000000 in
theorem decint_spec (b c : Array UInt8) (ks cs : List Int) (t t1 : Tok) (f : Bool) (hk : KBw.bInts b = ks) (hc : KBw.bInts c = cs) (hb : ks.length ≤ 64) (hb2 : cs.length ≤ 60) (hb3 : 2 ≤ cs.length) (hsp : 32 ∉ cs) :
    SpecR 51 6 40 [.bytes b t] [("alphabet", .bytes c t1), ("autofix", .bool f)] ((decF (tabF f cs) cs.length (rstripL ks)).map fun x => PInt x) := by
  intro prog w mean mg mb A env outer A₀ base h₀ L m s Q E B F X T hhd hA hf hke hd hu DK hret hraise
  obtain ⟨hdl, dp, fr, gd, un⟩ := A
  dsimp only at hhd hA hd hu
  subst hhd hA
  refine wpAny_call ?_
  have DK2 : DeepOK w mean mg mb base (env :: outer) s.heap := ⟨DK.inb, DK.top, kts_cons DK.dicts F hf⟩
  k_dflt (refine' enterP ?k1 ?k2 ?k3 ?k5 ?kA ?kF ?kK ?k6 ?k7 ?k8 ?k9 ?kB ?_ ?c2 ?c3 ?c4 ?c5; (case kA => exact rfl); (case kF => assumption); (case kK => assumption); (case k1 => k_asm); (case k2 => k_asm); (case k3 => k_asm);  (case k5 => k_asm); (case k6 => k_is); (case k7 => k_is); (case k8 => (try dsimp only); omega); (case k9 => first | exact BindsTo.of_eq rfl | exact binds_K (by k_in) rfl (by k_is) rfl rfl rfl | (refine' kp_binds ?kx ?ke; (case kx => k_in); (case ke => exact fun _ => rfl))); (case c5 => decide); (case kB => exact locs rfl); (case c2 => exact rfl); (case c3 => exact rfl); (case c4 => exact rfl); k_whole; intro L' h' F' N' B' X' T'; (try dsimp only); (try k_lift B'); (try k_fold))
  (k_with_none; (k_with "pyIter ref" => refine Stop.out ?_); (k_with "pyIter bytes" => refine Stop.out ?_); (k_with "exec While" => refine Stop.out ?_); (k_with "exec While Compare" => refine Stop.out ?_); (k_with "exec While BoolOp" => refine Stop.out ?_); (k_with "exec While Compare cons nil" => refine Stop.out ?_); (k_with "exec While Name" => refine Stop.out ?_); (k_with "InvEndN" => refine Stop.out ?_); (k_with "KswEnd" => refine Stop.out ?_))
  k_with "compareOp NotIn bytes bytes" => (k_dflt (refine notin_space rfl hc hsp ?_; intro hN tkN stN; (rename Fr s.heap _ _ _ => FX9); (rename News s.heap _ _ _ => NX9); have FN := fr_stays FX9 stN; have NN := news_stays NX9 stN; clear FX9 NX9))
  k_with "call ref" => first
    | (refine use_bytes (scrub_spec _ _ _ (by assumption)) (by k_asm) (by k_asm) (by k_asm) (by k_asm) (by k_asm) rfl rfl rfl rfl (by ktr_room) (by ktr_units) (by first | trivial | assumption | is_list) ?_; intro bU tU hU tkU kU FU NU)
    | (refine use_tab (map_spec c cs _ _ hc hb2) (by k_asm) (by k_asm) (by k_asm) (by k_asm) (by k_asm) rfl rfl rfl rfl (by ktr_room) (by ktr_units) (by trivial) ?_; intro lT oT hT tkT neT tT FT NT)
  k_with "callWith ref" => (k_dflt (refine callWith_boundKw (by k_asm) (by k_memK) ?_))
  k_with "getMethod bytes" => (with_reducible refine method_rstrip ?_)
  k_with "call builtin:bytes.rstrip" => (k_dflt (refine rstrip_K hk (by omega) ?_; intro bS tS kS hS))
  (k_steps; all_goals (repeat (first | (k_unfold; try dsimp only) | dsimp only)))
  refine Stop.mk ?_; (rename Fr s.heap _ _ _ => FF); (rename News s.heap _ _ _ => NN)
  refine KStb.kst_bytes (σ := Int × Tok) (fun _ => [(lT, oT)]) (fun c => [(Str.ofString "decimal", .int c.1 c.2)]) (fun _ => True) [] (fun pre c => decF (tabF f cs) cs.length pre = some c.1) (0, _) (by assumption) rfl rfl FF NN trivial (by kst_all) (by rfl) ?_ ?_
  · clear FF NN
    intro c pre post k t u h tk own hks _ hlo hhi hoff hf hp FF NN
    obtain ⟨x, tx⟩ := c
    dsimp only [List.map_cons, List.map_nil, List.cons_append, List.nil_append] at hoff NN FF hp
    cases hg : tabF f cs k with
    | some d =>
      k_with "subscriptTail" => (k_dflt (refine item_tab (by k_asm) (by k_memK) tT hg ?_; intro tI))
      k_with "subscriptTail Name Name ref int" => (k_dflt (refine item_tab (by k_asm) (by k_memK) tT hg ?_; intro tI))
      k_steps
      (refine Stop.mk ?_; (rename Fr s.heap _ _ _ => FF); (rename News s.heap _ _ _ => NN); refine kst_end ((x * cs.length + d, ?zt_7)) FF NN ?zE1_7 ?zE2_7 rfl ?zE3_7 ?zE4_7 ?zE5_7 ?zE6_7; (case zE1_7 => (intro p hp; kst_mem)); (case zE2_7 => (intro p hp; kst_mem)); (case zE3_7 => first | assumption | trivial); (case zE4_7 => kst_all); (case zE5_7 => (intro z h1 h2 h3; (try simp only [List.forall_mem_cons, List.not_mem_nil, false_implies, implies_true, and_true, ne_eq] at h2); (try simp only [List.contains_cons, List.contains_nil, Bool.or_false, Bool.or_eq_false_iff, beq_eq_false_iff_ne, ne_eq] at h3); first | rfl | (simp [kstB, h1, h2, h3]; done) | (simp [kstB, h1, h3]; done) | (simp [kstB, h1, h2]; done) | (simp [kstB, h1]; done))))
      exact decF_snoc hp hg
    | none =>
      k_with "subscriptTail" => (k_dflt (refine miss_tab rfl (by k_asm) (by k_memK) tT hg ?_; intro hM eM neM))
      k_with "subscriptTail Name Name ref int" => (k_dflt (refine miss_tab rfl (by k_asm) (by k_memK) tT hg ?_; intro hM eM neM))
      k_steps
      (k_dflt (refine caught_ownX (T' := "KeyError") neM FF NN B' DK2.inb DK2.top DK2.dicts (by k_is) PyProof.Rows.Boot.«KeyError» (by decide +kernel) kr_isExc_KeyError kr_notTuple_KeyError (by rw [isSubtype_type]; kernel_rfl) ?_; intro hC gC tkC oC vC tC dC eC FC NC BC XC TC DC))
      k_steps
      refine Raise_from0 PySem.F.excCall_ValueError PySem.F.excRaise_ValueError rfl (NC.get (List.Mem.head _)) dC eC ?_
      k_steps
      rename FromNone _ _ _ _ _ => fR
      refine as_tail BC FC fR fun hS tkS aS => ?_
      (repeat (first | (k_unfold; try dsimp only) | dsimp only))
      refine leave_tail aS tC fun hR rR uR => ?_
      (repeat (first | (k_unfold; try dsimp only) | dsimp only))
      exact hraise (by rw [hks, decF_none hp hg]; rfl) _ _ _ rR uR
  · clear FF NN
    intro c u hh tk _ _ hp FF NN
    obtain ⟨x, tx⟩ := c
    dsimp only at hp FF NN
    k_steps
    (repeat (first | (k_unfold; try dsimp only) | dsimp only))
    exact hret (PInt x) (by rw [hp]; rfl) _ _ _ (Fr.keep (by assumption)) ⟨_, rfl⟩

end
/-! Pure6 -/
section
/- --pure -/
theorem tabAt_in (ks : List Int) : ∀ (n : Nat) (k d : Int), tabAt ks n k = some d → 0 ≤ d ∧ d < (n : Int)
  | 0, k, d, h => by simp [tabAt] at h
  | i + 1, k, d, h => by
    unfold tabAt at h
    split at h
    · cases h; omega
    · have := tabAt_in ks i k d h
      omega
theorem fixOne_in {G : List Int} {g : Int → Option Int} {n : Int} (h : ∀ k d, g k = some d → 0 ≤ d ∧ d < n) : ∀ k d, fixOne G g k = some d → 0 ≤ d ∧ d < n := by
  intro k d e
  unfold fixOne at e
  split at e
  · dsimp only at e
    split at e
    · exact h _ _ e
    · exact h _ _ e
  · exact h _ _ e
theorem tabF_in (f : Bool) (cs : List Int) : ∀ k d, tabF f cs k = some d → 0 ≤ d ∧ d < (cs.length : Int) := by
  unfold tabF
  split
  · exact fixOne_in (fixOne_in (tabAt_in cs _))
  · exact tabAt_in cs _
theorem decF_big {g : Int → Option Int} {n : Int} (hn : 0 ≤ n) (hn2 : n ≤ 64) (h : ∀ k d, g k = some d → 0 ≤ d ∧ d < n) : ∀ (ks : List Int) (a : Int) (j : Nat) (x : Int), 0 ≤ a → a + 1 ≤ 2 ^ j → ks.foldl (decS g n) (some a) = some x → 0 ≤ x ∧ x + 1 ≤ 2 ^ (j + 6 * ks.length)
  | [], a, j, x, ha, hj, e => by
    rw [List.foldl_nil] at e
    cases e
    exact ⟨ha, by simpa using hj⟩
  | k :: r, a, j, x, ha, hj, e => by
    rw [List.foldl_cons] at e
    cases hg : g k with
    | none =>
      rw [show decS g n (some a) k = none by simp [decS, hg], decS_none] at e
      cases e
    | some d =>
      rw [show decS g n (some a) k = some (a * n + d) by simp [decS, hg]] at e
      obtain ⟨d0, d1⟩ := h _ _ hg
      have han : 0 ≤ a * n := Int.mul_nonneg ha hn
      have h1 : (a + 1) * n ≤ (a + 1) * 64 := Int.mul_le_mul_of_nonneg_left hn2 (by omega)
      have h2 : (a + 1) * n = a * n + n := by rw [Int.add_mul, Int.one_mul]
      have h3 : (2 : Int) ^ (j + 6) = 2 ^ j * 64 := by rw [Int.pow_add]; rfl
      have := decF_big hn hn2 h r (a * n + d) (j + 6) x (by omega) (by omega) e
      refine ⟨this.1, ?_⟩
      have e2 : j + 6 * (k :: r).length = j + 6 + 6 * r.length := by rw [List.length_cons]; omega
      rw [e2]
      exact this.2
noncomputable def Lt384 (x : Int) : Prop := x < 2 ^ 384
theorem decF_bound {f : Bool} {cs ks : List Int} {x : Int} (hn : cs.length ≤ 60) (hk : ks.length ≤ 64) (e : decF (tabF f cs) cs.length ks = some x) : 0 ≤ x ∧ Lt384 x := by
  have := decF_big (by omega) (by omega) (tabF_in f cs) ks 0 0 x (by omega) (by decide) e
  refine ⟨this.1, ?_⟩
  have h2 : (2 : Int) ^ (0 + 6 * ks.length) ≤ 2 ^ 384 := by
    have h3 : (2 : Nat) ^ (0 + 6 * ks.length) ≤ 2 ^ 384 := Nat.pow_le_pow_right (by decide) (by omega)
    exact_mod_cast h3
  exact Int.lt_of_lt_of_le (by omega) h2
noncomputable def stripC (c : Int) (ks : List Int) : List Int := ks.dropWhile fun y => decide (y = c)
theorem stripC_len (c : Int) (ks : List Int) : (stripC c ks).length ≤ ks.length := (List.dropWhile_sublist _).length_le
theorem rstripL_len (ks : List Int) : (rstripL ks).length ≤ ks.length := by
  unfold rstripL
  rw [List.length_reverse]
  have := (List.dropWhile_sublist white (l := ks.reverse)).length_le
  rw [List.length_reverse] at this
  exact this
noncomputable def decodeF (f : Bool) (cs ks : List Int) : Option (List Int) :=
  (decF (tabF f cs) cs.length (rstripL (stripC (cs.getD 0 0) (rstripL ks)))).map fun x =>
    List.replicate ((rstripL ks).length - (stripC (cs.getD 0 0) (rstripL ks)).length) 0 ++ (digs 256 x).reverse
section
variable {prog : Program} {w : World} {mean : ExcName → Option Value} {mg mb : Str → Option Value} {A : Around} {env : Env} {outer : List Env} {A₀ : Around} {base h₀ : Heap} {L : Addr} {m : Str → Option Value} {s : Shared} {Q E : Value → Shared → Prop} {news : List (Addr × Obj)}
  {f : Addr} {n u : Nat} {vs : List Value} {kw : List (Str × Value)}
theorem use_intR {x : Option Int} (H : SpecR f n u vs kw (x.map fun y => PInt y)) (B : Below A₀ base outer h₀) (F : Fr h₀ L s.heap m) (X : (hd.heap_39 w.params).In h₀) (T : TT mean mg mb h₀) (N : News h₀ L s.heap news)
    (hh : A.handled = none) (hA : A.frames = some (env :: outer)) (hf : env.frame = some L) (hke : env.scope.kind = .function) (hd : A.depth + n < recursionLimit) (hu : A.units + u < cLine) (DK : DeepOK w mean mg mb base outer h₀)
    (k : ∀ y t h' tk', x = some y → Fr h₀ L h' m → News h₀ L h' news → Q (.int y t) { s with heap := h', toks := tk' })
    (kr : x = none → ∀ e h' tk', RaisedSN base s.heap (env :: outer) e (.type "ValueError") [] h' → s.heap.UpToSlots h' → E (.ref e) { s with heap := h', toks := tk' }) : wpAny (model prog w) A (call (.ref f) vs kw) Q E s := by
  refine H _ _ _ _ _ _ _ _ _ _ _ _ _ _ _ _ B F X T hh hA hf hke hd hu DK ?_ ?_
  · intro P hP v h' tk' st hv
    cases x with
    | none => cases hP
    | some y =>
      cases hP
      obtain ⟨t, rfl⟩ := hv
      exact k y t h' tk' rfl (fr_stays F st) (news_stays N st)
  · intro hP
    cases x with
    | none => exact kr rfl
    | some y => cases hP
theorem use_bytesR {x : Option (List Int)} (H : SpecR f n u vs kw (x.map fun y => PBytes y)) (B : Below A₀ base outer h₀) (F : Fr h₀ L s.heap m) (X : (hd.heap_39 w.params).In h₀) (T : TT mean mg mb h₀) (N : News h₀ L s.heap news)
    (hh : A.handled = none) (hA : A.frames = some (env :: outer)) (hf : env.frame = some L) (hke : env.scope.kind = .function) (hd : A.depth + n < recursionLimit) (hu : A.units + u < cLine) (DK : DeepOK w mean mg mb base outer h₀)
    (k : ∀ y b t h' tk', x = some y → KBw.bInts b = y → Fr h₀ L h' m → News h₀ L h' news → Q (.bytes b t) { s with heap := h', toks := tk' })
    (kr : x = none → ∀ e h' tk', RaisedSN base s.heap (env :: outer) e (.type "ValueError") [] h' → s.heap.UpToSlots h' → E (.ref e) { s with heap := h', toks := tk' }) : wpAny (model prog w) A (call (.ref f) vs kw) Q E s := by
  refine H _ _ _ _ _ _ _ _ _ _ _ _ _ _ _ _ B F X T hh hA hf hke hd hu DK ?_ ?_
  · intro P hP v h' tk' st hv
    cases x with
    | none => cases hP
    | some y =>
      cases hP
      obtain ⟨b, t, rfl, hb⟩ := hv
      exact k y b t h' tk' rfl hb (fr_stays F st) (news_stays N st)
  · intro hP
    cases x with
    | none => exact kr rfl
    | some y => cases hP
end

end
/-! Rules18 -/
section
/- --pure -/
/-! bytes out of a reversed list of ints -/
theorem bmr_no_bytes : typeLookup (.type "list_reverseiterator") "__bytes__" = pure none := by rw [typeLookup_type, builtinLookup_eq_fast]; kernel_rfl
theorem bmr_no_index : typeLookup (.type "list_reverseiterator") "__index__" = pure none := by rw [typeLookup_type, builtinLookup_eq_fast]; kernel_rfl
theorem bmr_no_buffer : typeLookup (.type "list_reverseiterator") "__buffer__" = pure none := by rw [typeLookup_type, builtinLookup_eq_fast]; kernel_rfl
theorem bmr_no_len : typeLookup (.type "list_reverseiterator") "__len__" = pure none := by rw [typeLookup_type, builtinLookup_eq_fast]; kernel_rfl
theorem bmr_hint : typeLookup (.type "list_reverseiterator") "__length_hint__" = pure (some (.builtin "list_reverseiterator.__length_hint__")) := by rw [typeLookup_type, builtinLookup_eq_fast]; kernel_rfl
theorem bmr_split : splitId "list_reverseiterator.__length_hint__" = some ("list_reverseiterator", "__length_hint__") := by decide +kernel
theorem bmr_sub : isSubtype (.type "list_reverseiterator") (.type "list_reverseiterator") = pure true := by rw [isSubtype_type]; kernel_rfl
section
variable {prog : Program} {w : World} {A : Around} {E : Value → Shared → Prop} {s : Shared}
theorem bmr_loop {R : Result → Shared → Prop} {l I S : Addr} {vs : List Value} {ns : List Int} (hh : A.handled = none) (hi : IntsAre vs ns) (hr : ∀ n ∈ ns, 0 ≤ n ∧ n < 256) (hz : ns.length ≤ sizeLine) (hIS : I ≠ S) (hlI : l ≠ I) (hlS : l ≠ S) :
    ∀ (k i : Nat) (s : Shared), ns.length - i = k → i ≤ ns.length → s.heap.IsList l vs.toArray → s.heap.IsRevIter I l ((ns.length : Int) - 1 - (i : Int)) → s.heap.get? S = some { cls := .type "bytearray", data := .bytearray (byteArr (ns.reverse.take i)) } →
      (∀ h' t k', (∀ b o, b ≠ I → b ≠ S → s.heap.get? b = some o → h'.get? b = some o) → R (.ok (.ret (.bytes (byteArr ns.reverse) t))) { s with heap := h', toks := k' }) →
      codeAny (model prog w) A (.builtin "bytes.__new__.loop" ⟨[.type "bytes", .ref I, .ref S], []⟩) R s := by
  have hlen : vs.length = ns.length := hi.length
  have hlr : ns.reverse.length = ns.length := List.length_reverse
  intro k
  induction k with
  | zero =>
    intro i s hk hle hl hit hS hR
    have hin : i = ns.length := by omega
    subst hin
    have e1 : (ns.length : Int) - 1 - (ns.length : Int) = -1 := by omega
    rw [e1] at hit
    refine codeAny_builtin F.bm_entry_loop ?_
    rw [Around.under_plainId F.bm_plain_loop _]
    show wpAny _ A.in1 (pyNext (.ref I) >>= _) _ _ s
    refine wpAny_bind (wpAny_pyNext_rev_end hh hit fun h' he => ?_)
    have hS' : h'.get? S = some { cls := .type "bytearray", data := .bytearray (byteArr (ns.reverse.take ns.length)) } := he S _ (Ne.symm hIS) hS
    refine wpAny_bind ?_
    unfold Builtin.Bytes.payload Builtin.Bytes.payload?
    refine wpAny_bind (wpAny_bind (wpAny_load hS' ?_))
    refine wpAny_pure (wpAny_pure ?_)
    rw [← hlr, List.take_length]
    refine wpAny_bind (wpAny_mkBytes ?_ (by rw [byteArr_size, hlr]; exact hz))
    show wpAny _ _ (if (Value.type "bytes" == Value.type "bytes") = true then _ else _) _ _ _
    refine bm_if_true (by decide) ?_
    first
      | exact wpAny_pure (hR h' _ _ fun b o hb _ e => he b o hb e)
      | exact wpAny_bind (wpAny_pure (wpAny_pure (hR h' _ _ fun b o hb _ e => he b o hb e)))
  | succ k ih =>
    intro i s hk hle hl hit hS hR
    have hlt : i < ns.length := by omega
    obtain ⟨x, hx⟩ : ∃ x, vs[ns.length - 1 - i]? = some x := ⟨vs[ns.length - 1 - i]'(by omega), List.getElem?_eq_getElem (by omega)⟩
    obtain ⟨n, t, rfl, hn⟩ := IntsAre.at hi _ x hx
    obtain ⟨h0, h1⟩ := hr n (List.mem_of_getElem? hn)
    have hn2 : ns.reverse[i]? = some n := by rw [List.getElem?_reverse hlt]; exact hn
    have e1 : (ns.length : Int) - 1 - (i : Int) = ((ns.length - 1 - i : Nat) : Int) := by omega
    rw [e1] at hit
    refine codeAny_builtin F.bm_entry_loop ?_
    rw [Around.under_plainId F.bm_plain_loop _]
    show wpAny _ A.in1 (pyNext (.ref I) >>= _) _ _ s
    refine wpAny_bind (wpAny_pyNext_rev_item (x := .int n t) hit hl (by simpa using hx) fun h' hit' hs => ?_)
    have e2 : ((ns.length - 1 - i : Nat) : Int) - 1 = (ns.length : Int) - 1 - ((i + 1 : Nat) : Int) := by omega
    rw [e2] at hit'
    have hS' : h'.get? S = some { cls := .type "bytearray", data := .bytearray (byteArr (ns.reverse.take i)) } := (hs.2 S (Ne.symm hIS)).trans hS
    refine wpAny_bind (wpAny_holding (wpAny_of_eq (rfl : asIndex (.int n t) = pure n) ?_))
    refine wpAny_bind (wpAny_letGo ?_)
    refine bm_if_false (by simp only [Bool.or_eq_false_iff, decide_eq_false_iff_not]; omega) ?_
    refine wpAny_bind ?_
    show wpAny _ _ (updateBytearray S (·.push n.toNat.toUInt8)) _ _ _
    unfold updateBytearray
    refine wpAny_bind (wpAny_load hS' ?_)
    show wpAny _ _ (update S (Obj.mapBytearray (·.push n.toNat.toUInt8)) >>= fun _ => lookBehind S) _ _ _
    refine wpAny_bind (wpAny_update hS' ?_)
    have hS₂ : (h'.update S (Obj.mapBytearray (·.push n.toNat.toUInt8))).get? S = some { cls := .type "bytearray", data := .bytearray (byteArr (ns.reverse.take (i + 1))) } := by
      rw [byteArr_take hn2]
      exact Heap.get?_update_self (Obj.mapBytearray (·.push n.toNat.toUInt8)) hS' rfl
    refine wpAny_lookBehind hS₂ ?_ ?_
    · show (if (byteArr (ns.reverse.take (i + 1))).size > sizeLine then some "bytearray:memory" else none) = none
      rw [if_neg]
      rw [byteArr_size, List.length_take]
      omega
    · refine wpAny_pure ⟨plainId_quiet F.bm_plain_loop _, ih (i + 1) { s with heap := h'.update S (Obj.mapBytearray (·.push n.toNat.toUInt8)) } (by omega) hlt ?_ ?_ hS₂ fun h3 t' k' hk3 => ?_⟩
      · exact (hl.extBut hs.extBut hlI).extBut (Heap.SameBut.update ..).extBut hlS
      · exact hit'.at fun o e => (Heap.get?_update_other _ _ (Ne.symm hIS)).trans e
      · exact hR h3 t' k' fun b o hbI hbS e => hk3 b o hbI hbS ((Heap.get?_update_other _ _ (Ne.symm hbS)).trans (hs.extBut b o hbI e))
theorem bmr_new {l I : Addr} {vs : List Value} {ns : List Int} {Q : Value → Shared → Prop} (hh : A.handled = none) (hl : s.heap.IsList l vs.toArray) (hit : s.heap.IsRevIter I l ((ns.length : Int) - 1)) (hi : IntsAre vs ns) (hr : ∀ n ∈ ns, 0 ≤ n ∧ n < 256) (hz : ns.length ≤ sizeLine)
    (hlI : l ≠ I) (hQ : ∀ h' t k, (∀ b o, b ≠ I → s.heap.get? b = some o → h'.get? b = some o) → Q (.bytes (byteArr ns.reverse) t) { s with heap := h', toks := k }) :
    codeAny (model prog w) A (.call (.builtin "bytes.__new__") ⟨[.type "bytes", .ref I], []⟩) (wants Q E) s := by
  refine codeAny_of_tree ?_
  show wpAny _ A.in1 (do checkBuiltinCall "bytes.__new__" ⟨[.type "bytes", .ref I], []⟩; again (.builtin "bytes.__new__" ⟨[.type "bytes", .ref I], []⟩)) _ _ s
  refine wpAny_bind (wpAny_of_eq (F.bm_newCall _) (wpAny_pure ⟨plainId_quiet F.bm_plain _, codeAny_builtin F.bm_entry ?_⟩))
  rw [Around.under_plainId F.bm_plain _]
  have hT : s.TypeIs (.ref I) "list_reverseiterator" := hit.typeIs
  obtain ⟨ol, hol, hoc, hod⟩ := id hit
  unfold Builtin.«bytes.__new__»
  refine wpAny_bind (wpAny_of_eq (a := true) rfl ?_)
  refine bm_if_false rfl ?_
  refine wpAny_bind (wpAny_of_eq F.bm_sub ?_)
  refine bm_if_false rfl ?_
  refine wpAny_bind (wpAny_of_eq (F.bm_bind _) ?_)
  refine wpAny_bind (wpAny_of_eq (a := ()) rfl ?_)
  refine wpAny_bind (wpAny_of_eq (a := ()) rfl ?_)
  refine bm_if_false rfl ?_
  refine wpAny_bind (wpAny_specialOf hT bmr_no_bytes ?_)
  refine wpAny_bind (wpAny_bind ?_)
  show wpAny _ _ (load I >>= _) _ _ _
  refine wpAny_bind (wpAny_load hol ?_)
  rw [hod]
  refine wpAny_pure (wpAny_pure ?_)
  refine bm_if_false rfl ?_
  refine wpAny_bind (wpAny_specialOf hT bmr_no_index ?_)
  refine bm_if_true rfl ?_
  first
    | show wpAny _ _ (Builtin.Bytes.buffer? "bytes.__new__" (.ref I) true >>= _) _ _ _
    | (refine wpAny_bind ?_; show wpAny _ _ (Builtin.Bytes.buffer? "bytes.__new__" (.ref I) true >>= _) _ _ _)
  refine wpAny_bind ?_
  unfold Builtin.Bytes.buffer?
  refine wpAny_bind (wpAny_specialOf hT bmr_no_buffer ?_)
  refine wpAny_bind (wpAny_specialOf hT bmr_no_buffer ?_)
  refine wpAny_pure ?_
  refine wpAny_bind (wpAny_tryCatch (wpAny_pyIter_revIter hit ?_))
  refine wpAny_bind (wpAny_holding ?_)
  unfold Builtin.Bytes.lengthHint
  refine wpAny_bind (wpAny_specialOf hT bmr_no_len ?_)
  dsimp only
  refine bm_if_false (by decide +kernel) ?_
  refine bm_if_false (by decide +kernel) ?_
  refine wpAny_bind (wpAny_specialOf hT bmr_hint ?_)
  dsimp only
  rw [bmr_split]
  dsimp only
  refine wpAny_bind (wpAny_isInstance hT bmr_sub ?_)
  refine bm_if_false rfl ?_
  refine bm_if_true (by decide +kernel) ?_
  refine bm_if_false (by decide +kernel) ?_
  refine wpAny_pure ?_
  refine wpAny_bind ?_
  unfold Builtin.Bytes.newBytearray
  refine wpAny_newObj_type ?_ (Nat.zero_le _)
  have hlI' : I < s.heap.objs.size := Heap.lt_size hol
  obtain ⟨oL, hoL, _⟩ := id hl
  have hll : l < s.heap.objs.size := Heap.lt_size hoL
  have hit2 : s.heap.IsRevIter I l ((ns.length : Int) - 1 - ((0 : Nat) : Int)) := by
    have e : (ns.length : Int) - 1 - ((0 : Nat) : Int) = (ns.length : Int) - 1 := by omega
    rw [e]
    exact hit
  have main := bmr_loop (prog := prog) (w := w) (A := A) (R := wants Q E) (l := l) (I := I) (S := s.heap.objs.size) hh hi hr hz (Nat.ne_of_lt hlI') hlI (Nat.ne_of_lt hll)
    ns.length 0 { s with heap := s.heap.push { cls := .type "bytearray", data := .bytearray #[] } } rfl (Nat.zero_le _) (hl.push _) (hit2.at fun o e => Heap.get?_push_of_some _ e) (Heap.get?_push_size _ rfl)
    fun h' t k hk => hQ h' t k fun b o hb e => hk b o hb (Nat.ne_of_lt (Heap.lt_size e)) (Heap.get?_push_of_some _ e)
  first
    | exact wpAny_pure ⟨plainId_quiet F.bm_plain_loop _, main⟩
    | exact wpAny_pure (wpAny_pure ⟨plainId_quiet F.bm_plain_loop _, main⟩)
theorem call_bytes_rev {l I : Addr} {vs : List Value} {ns : List Int} {Q : Value → Shared → Prop} (hl : s.heap.IsList l vs.toArray) (hit : s.heap.IsRevIter I l ((ns.length : Int) - 1)) (hi : IntsAre vs ns) (hr : ∀ n ∈ ns, 0 ≤ n ∧ n < 256) (hz : vs.length ≤ sizeLine) (hlI : l ≠ I) (hh : A.handled = none)
    (hQ : ∀ h' t k, (∀ b o, b ≠ I → s.heap.get? b = some o → h'.get? b = some o) → Q (.bytes (byteArr ns.reverse) t) { s with heap := h', toks := k }) : wpAny (model prog w) A (call (.type "bytes") [.ref I]) Q E s := by
  refine callType_codes (Q₁ := fun obj s₁ => s₁.TypeIs obj "bytes" ∧ Q obj s₁) F.bm_called (F.bm_typeCall _) F.entry_object_init
    (bmr_new hh hl hit hi hr (by rw [← hi.length]; exact hz) hlI fun h' t k hk => ⟨PySem.W.typeIs_bytes _ _ _, hQ h' t k hk⟩) fun obj s₁ h₁ => ?_
  exact ⟨h₁.1, F.args_object_init_2 obj _, object_init_meets F.bm_called.init.lookup F.bm_called.made (by decide) prog w A.in1 _ s₁ ⟨h₁.1, rfl, h₁.2⟩⟩
theorem bytes_rev_K {h₀ : Heap} {L D l : Addr} {m : Str → Option Value} {news : List (Addr × Obj)} {vs : List Value} {ns : List Int} {n : Nat} {Q : Value → Shared → Prop} (F : Fr h₀ L s.heap m) (N : News h₀ L s.heap ((D, revObj l ((vs.length : Int) - 1)) :: news)) (hh : A.handled = none) (hlt : l < D) (hm : (l, PySem.W.listOf vs.toArray n) ∈ news) (hoff : ∀ q ∈ news, q.1 ≠ D) (hi : IntsAre vs ns) (hr : KBa.In ns) (hn : ns.length ≤ 16777216)
    (h : ∀ b' h' t' k, KBw.bInts b' = ns.reverse → Fr h₀ L h' m → News h₀ L h' news → Q (.bytes b' t') { s with heap := h', toks := k }) : wpAny (model prog w) A (call (.type "bytes") [.ref D]) Q E s := by
  have hD := N _ (List.mem_cons_self ..)
  have hl := N _ (List.mem_cons_of_mem _ hm)
  have hLD : L ≠ D := fun q => hD.2.1 q.symm
  refine call_bytes_rev (l := l) (vs := vs) (ns := ns) ⟨_, hl.1, rfl, _, rfl⟩ ⟨_, hD.1, rfl, by rw [← hi.length]; rfl⟩ hi hr (by rw [hi.length, sizeLine_eq]; exact hn) (Nat.ne_of_lt hlt) hh fun h' t' k hk => h _ h' t' k (KBa.ints_make fun x hx => hr x (List.mem_reverse.mp hx)) ⟨?_, ?_, F.above⟩ ?_
  · obtain ⟨o, es, ep, ho, r⟩ := F.ns
    exact ⟨o, es, ep, hk _ _ hLD ho, r⟩
  · intro b o e
    refine hk b o (fun q => ?_) (F.keep b o e)
    rw [q, hD.2.2] at e
    cases e
  · intro q hq
    have hq2 := N q (List.mem_cons_of_mem _ hq)
    exact ⟨hk _ _ (hoff q hq) hq2.1, hq2.2⟩
end

end
/-! F10 -/
section
local macro_rules | `(tactic| walk_at $s:str) => `(tactic| k_extra $s)
theorem news_tl {h₀ h : Heap} {L : Addr} {p : Addr × Obj} {r : List (Addr × Obj)} (N : News h₀ L h (p :: r)) : News h₀ L h r := fun q hq => N q (List.mem_cons_of_mem _ hq)
theorem in3 {x c : Int} {o : List Int} (h : CarW (x + 1) 256 [] x c o) (hc : ¬ 0 < c) : KBa.In o := by
  have e := h.done hc
  rw [List.nil_append] at e
  rw [e]
  exact digs_in (b := 256) _ _ (Nat.le_refl _)
set_option maxHeartbeats 8000000 in
theorem decode_spec (b c : Array UInt8) (ks cs : List Int) (t t1 : Tok) (f : Bool) (hk : KBw.bInts b = ks) (hc : KBw.bInts c = cs) (hb : ks.length ≤ 64) (hb2 : cs.length ≤ 60) (hb3 : 2 ≤ cs.length) (hsp : 32 ∉ cs) :
    SpecR 60 7 48 [.bytes b t] [("alphabet", .bytes c t1), ("autofix", .bool f)] ((decodeF f cs ks).map fun x => PBytes x) := by
  intro prog w mean mg mb A env outer A₀ base h₀ L m s Q E B F X T hhd hA hf hke hd hu DK hret hraise
  obtain ⟨hdl, dp, fr, gd, un⟩ := A
  dsimp only at hhd hA hd hu
  subst hhd hA
  refine wpAny_call ?_
  have DK2 : DeepOK w mean mg mb base (env :: outer) s.heap := ⟨DK.inb, DK.top, kts_cons DK.dicts F hf⟩
  have hv1 := rstripL_len ks
  have hv2 := stripC_len (cs.getD 0 0) (rstripL ks)
  have hv3 : (List.dropWhile (fun y => decide (y = cs.getD 0 0)) (rstripL ks)).length ≤ (rstripL ks).length := hv2
  have hc1 : List.take (clipAt cs.length 1 - clipAt cs.length 0) (List.drop (clipAt cs.length 0) cs) = [cs.getD 0 0] := slice1 (k := 0) (by decide) (by omega)
  k_dflt (refine' enterP ?k1 ?k2 ?k3 ?k5 ?kA ?kF ?kK ?k6 ?k7 ?k8 ?k9 ?kB ?_ ?c2 ?c3 ?c4 ?c5; (case kA => exact rfl); (case kF => assumption); (case kK => assumption); (case k1 => k_asm); (case k2 => k_asm); (case k3 => k_asm);  (case k5 => k_asm); (case k6 => k_is); (case k7 => k_is); (case k8 => (try dsimp only); omega); (case k9 => first | exact BindsTo.of_eq rfl | exact binds_K (by k_in) rfl (by k_is) rfl rfl rfl | (refine' kp_binds ?kx ?ke; (case kx => k_in); (case ke => exact fun _ => rfl))); (case c5 => decide); (case kB => exact locs rfl); (case c2 => exact rfl); (case c3 => exact rfl); (case c4 => exact rfl); k_whole; intro L' h' F' N' B' X' T'; (try dsimp only); (try k_lift B'); (try k_fold))
  (k_with_none; (k_with "pyIter ref" => refine Stop.out ?_); (k_with "pyIter bytes" => refine Stop.out ?_); (k_with "exec While" => refine Stop.out ?_); (k_with "exec While Compare" => refine Stop.out ?_); (k_with "exec While BoolOp" => refine Stop.out ?_); (k_with "exec While Compare cons nil" => refine Stop.out ?_); (k_with "exec While Name" => refine Stop.out ?_); (k_with "InvEndN" => refine Stop.out ?_); (k_with "KswEnd" => refine Stop.out ?_))
  k_with "call ref" => first
    | (refine use_bytes (scrub_spec _ _ _ (by assumption)) (by k_asm) (by k_asm) (by k_asm) (by k_asm) (by k_asm) rfl rfl rfl rfl (by ktr_room) (by ktr_units) (by first | trivial | assumption | is_list) ?_; intro bU tU hU tkU kU FU NU)
    | (refine use_intR (decint_spec _ _ _ _ _ _ f hSx hc (by omega) hb2 hb3 hsp) (by k_asm) (by k_asm) (by k_asm) (by k_asm) (by k_asm) rfl rfl rfl rfl (by ktr_room) (by ktr_units) DK2 ?_ ?_; intro yI tI hI tkI eI FI NI; rotate_left; intro eI xR hR tkR RR uR; rotate_left)
  k_with "callWith ref" => (k_dflt (refine callWith_boundKw (by k_asm) (by k_memK) ?_))
  k_with "getMethod bytes" => (with_reducible first | refine method_rstrip ?_ | refine method_lstrip ?_)
  k_with "call builtin:bytes.rstrip" => (k_dflt (refine rstrip_K hk (by omega) ?_; intro bS tS kS hS))
  k_with "call builtin:bytes.lstrip" => (k_dflt (refine lstrip_K (by assumption) (x := cs.getD 0 0) (by (rename KBw.bInts _ = List.take _ _ => kS9; exact kS9.trans hc1)) (by omega) ?_; intro bS2 tS2 kS2 hSx))
  (k_steps; all_goals (repeat (first | (k_unfold; try dsimp only) | dsimp only)))
  · have hx0 := decF_bound hb2 (Nat.le_trans (rstripL_len _) (by omega)) eI
    refine Stop.mk ?_; (rename Fr s.heap _ _ _ => FF); (rename News s.heap _ _ _ => NN)
    refine while1 (ι := Int × Tok) (ex := []) (vs₀ := []) (xs₀ := []) (fun i => [(Str.ofString "acc", .int i.1 i.2)]) (yI, tI) [Str.ofString "mod"] (fun o i => CarW (yI + 1) 256 [] yI i.1 o ∧ o.length ≤ 384) (fun _ i => i.1.toNat) FF NN .nil (fun p hp => by rw [List.mem_singleton.mp hp]; rfl) ⟨carW_start hx0.1 (by omega), by simp⟩ ?zw5 (by passes_own)
    clear FF NN
    intro o3 ovs3 oc3 i3 u3 h3' tkk3 hfacts3 hp3 FF NN
    obtain ⟨c3, ct3⟩ := i3
    obtain ⟨hcar3, hol3⟩ := hp3
    dsimp only at hcar3 hol3 FF NN
    k_with "call type:bytes" => (k_dflt (refine bytes_rev_K (by k_asm) (by assumption) rfl (by assumption) (by k_memK) (by intro q hq; rcases List.mem_cons.mp hq with rfl | hq; exact Nat.ne_of_lt (by assumption); cases hq) hfacts3 (in3 hcar3 (by assumption)) (by omega) ?_; intro bR hR tR kR kbR FR NR))
    k_with "binaryOp Add bytes bytes" => (k_dflt (refine KBa.add_K (ints_flat _ _) kbR (by rw [List.length_replicate, List.length_reverse]; omega) ?_; intro tA kA hA))
    k_with "call builtin:list.append" => (k_dflt ((rename News _ _ _ (_ :: [_]) => nw0); (have nwX := news_tl nw0); clear nw0; (with_unfolding_all refine append_one (by assumption) nwX ?_); clear nwX; intro _ _ _))
    k_steps
    · (dsimp only [W1, KswPost]; (rename Fr s.heap _ _ _ => FF); (rename News s.heap _ _ _ => NN); (try simp only [List.push_toArray] at NN); refine ksw_end (σ := S1 _) ((?zo_7, ?zv_7, ?zn_7), ?zi3, ?zi4) FF NN ?zE1_7 ?zE3_7 ?zE4_7 ?zE5_7 ?zE6_7 ?zE7_7; (case zE1_7 => (dsimp only [Led1]; refine List.forall_mem_cons.mpr ⟨by k_memK, ?_⟩; intro p hp; kst_mem)); (case zE3_7 => first | assumption | k_intsEnd); (case zE4_7 => kst_all); (case zE5_7 => (intro z h2 h3; (try simp only [List.forall_mem_cons, List.not_mem_nil, false_implies, implies_true, and_true, ne_eq] at h2); (try simp only [List.contains_cons, List.contains_nil, Bool.or_false, Bool.or_eq_false_iff, beq_eq_false_iff_ne, ne_eq] at h3); first | rfl | (simp [kstB, h2, h3]; done) | (simp [kstB, h3]; done) | (simp [kstB, h2]; done) | (simp [kstB]; done))))
      · obtain ⟨st1, st2⟩ := hcar3.step (by decide) (by assumption)
        refine ⟨st1, ?_⟩
        have q1 := st1.len
        have q2 := digs_len (b := 256) (by decide) 384 yI hx0.2
        exact Nat.le_trans q1 q2
      · exact (hcar3.step (by decide) (by assumption)).2
    · have e3 := hcar3.done (by assumption)
      (repeat (first | (k_unfold; try dsimp only) | dsimp only))
      refine hret (PBytes (List.replicate ((rstripL ks).length - (stripC (cs.getD 0 0) (rstripL ks)).length) 0 ++ (digs 256 yI).reverse)) ?_ _ _ _ (Fr.keep (by assumption)) ⟨_, _, rfl, ?_⟩
      · unfold decodeF
        rw [show stripC (cs.getD 0 0) (rstripL ks) = List.dropWhile (fun y => decide (y = cs.getD 0 0)) (rstripL ks) from rfl, eI]
        rfl
      · rw [hA, e3, List.nil_append]
        congr 2
        unfold stripC
        omega
  · (repeat (first | (k_unfold; try dsimp only) | dsimp only))
    (rename Fr s.heap _ _ _ => FF)
    refine leave_onSN B' FF RR uR fun hR2 R2 _ u2 => ?_
    (repeat (first | (k_unfold; try dsimp only) | dsimp only))
    exact hraise (by unfold decodeF stripC; rw [eI]; rfl) _ _ _ R2 u2

end
/-! Rules19 -/
section
/- --pure -/
section
open PyProof.Rows.LCg PyProof.Rows.LCt
variable {prog : Program} {w : World} {A : Around} {E : Value → Shared → Prop} {R : Result → Shared → Prop} {s : Shared} {h₀ : Heap} {L : Addr} {m : Str → Option Value} {env : Env} {news : List (Addr × Obj)}
  {kx iter : Expr} {x : Str} {px pv' : Pos} {scope : Scope} {cl : List (Str × Addr)} {pos : Pos} {ks : List Int} {n : Nat}
theorem range_loop {cenv : Env} {I D : Addr} {m : Str → Option Value} (hlen : n ≤ 1000) (hn : ks.length = n) (hh : A.handled = none) (hx : cenv.kindOf x = some .local) (hck : cenv.scope.kind = .function) (hdx : (x == ("__debug__" : Str)) = false)
    (hDI : D ≠ I) (hCI : cenv.locals ≠ I) (hCD : cenv.locals ≠ D)
    (hit : IsRangeIter s.heap I 0 n 1) (hM : s.heap.IntMap D (fun _ => none)) (hZ : s.heap.DictLe D 0) (hns : s.heap.Ns cenv.locals m)
    (hkey : ∀ (i : Nat) (t : Tok) (s' : Shared) (m' : Str → Option Value) (E' : Value → Shared → Prop), i < n → s'.heap.Ns cenv.locals m' → m' x = some (.int (i : Int) t) → (∀ b o, b ≠ cenv.locals → b ≠ I → b ≠ D → s.heap.get? b = some o → s'.heap.get? b = some o) → (∃ h' tk', s' = { s with heap := h', toks := tk' }) →
      wpAny (model prog w) A (eval kx cenv) (fun v s'' => (∃ t, v = .int (ks.getD i 0) t) ∧ ∃ tk', s'' = { s' with toks := tk' }) E' s')
    (hR : ∀ h' tk m' f, h'.Ns cenv.locals m' → h'.IntMap D f → h'.DictLe D ks.length → Tab f (tabAt ks ks.length) → (∀ b o, b ≠ cenv.locals → b ≠ I → b ≠ D → s.heap.get? b = some o → h'.get? b = some o) → R (.ok .next) { s with heap := h', toks := tk }) :
    codeAny (model prog w) A (.compLoop (.DictComp kx (.Name x pv') [⟨.Name x px, iter, [], 0⟩] scope pos) 0 (.ref I) (.ref D) cenv) R s := by
  have W := Walks.range (prog := prog) (w := w) (A := A) hh I 0 1 n
  refine compLoopD
    (fun k s' => ∃ h' tk m' i f, s' = { s with heap := h', toks := tk } ∧ IsRangeIter h' I (0 + ((i : Nat) : Int) * 1) ((n : Int) - ((i : Nat) : Int)) 1 ∧ h'.IntMap D f ∧ h'.DictLe D i ∧ Tab f (tabAt ks i) ∧ h'.Ns cenv.locals m' ∧ i ≤ n ∧
      k = n + 1 - i ∧ ∀ b o, b ≠ cenv.locals → b ≠ I → b ≠ D → s.heap.get? b = some o → h'.get? b = some o) ?_ (n + 1)
    ⟨s.heap, s.toks, m, 0, _, rfl, by simpa using hit, hM, hZ, fun _ => .inl ⟨rfl, rfl⟩, hns, Nat.zero_le _, rfl, fun _ _ _ _ _ x => x⟩
  rintro k s' ⟨H, tk, m', i, f, rfl, hst, hM', hZ', hT, hn', hi, rfl, hk⟩
  by_cases hlt : i < n
  · refine W.item i _ _ _ hlt hst fun v h₁ tk₁ hP hst₁ hk₁ => ?_
    obtain ⟨t, rfl⟩ := hP
    have e1 : (0 : Int) + (i : Int) * 1 = (i : Int) := by omega
    have up₁ : ∀ b' o, b' ≠ I → H.get? b' = some o → h₁.get? b' = some o := fun b' o h1 x => hk₁ b' o (fun q => h1 (List.mem_singleton.mp q)) x
    have hn₁ : h₁.Ns cenv.locals m' := hn'.at' fun o x => up₁ _ o hCI x
    have hM₁ : h₁.IntMap D f := by
      obtain ⟨o, es, ep, ho, r⟩ := hM'
      exact ⟨o, es, ep, up₁ _ o hDI ho, r⟩
    have hZ₁ : h₁.DictLe D i := by
      obtain ⟨o, es, ep, ho, r⟩ := hM'
      exact hZ'.of_same ho (up₁ _ o hDI ho)
    have hp : (cenv.scope.kind == .class || (cenv.scope.kind == .module && cenv.locals != cenv.globals)) = false := by rw [hck]; rfl
    refine wpAny_pure ?_
    refine wpAny_assign_Name (wpAny_storeName_local hx hn₁ (fun h₂ hn₂ hs₂ => ?_) hp)
    replace hs₂ : Heap.SameBut cenv.locals h₁ h₂ := hs₂
    refine wpAny_pure ?_
    rw [if_pos rfl]
    have hv : (fun z => if z = x then some (Value.int (0 + (i : Int) * 1) t) else m' z) x = some (.int (i : Int) t) := by simp [e1]
    have up₂ : ∀ b' o, b' ≠ cenv.locals → b' ≠ I → H.get? b' = some o → h₂.get? b' = some o := fun b' o h1 h2 x => hs₂.extBut b' o h1 (up₁ b' o h2 x)
    refine wpAny_mono (hkey i t { s with heap := h₂, toks := tk₁ + 1 } _ _ hlt hn₂ hv (fun b o h1 h2 h3 y => up₂ b o h1 h2 (hk b o h1 h2 h3 y)) ⟨h₂, _, rfl⟩) (fun kv s₃ ⟨⟨t3, e3⟩, tk3, e4⟩ => ?_) fun _ _ y => y
    subst e3 e4
    refine wpAny_Name (wpAny_loadName_local hck hx hn₂ hv ?_) hdx
    have hM₂ : h₂.IntMap D f := by
      obtain ⟨o, es, ep, ho, r⟩ := hM₁
      exact ⟨o, es, ep, hs₂.extBut _ o (Ne.symm hCD) ho, r⟩
    have hZ₂ : h₂.DictLe D i := by
      obtain ⟨o, es, ep, ho, r⟩ := hM₁
      exact hZ₁.of_same ho (hs₂.extBut _ o (Ne.symm hCD) ho)
    have hsl : i ≤ sizeLine := by rw [sizeLine_eq]; omega
    refine wpAny_dictSet_int_le hM₂ hZ₂ hsl fun h₆ hM₆ hZ₆ hs₆ => ?_
    replace hs₆ : Heap.SameBut D h₂ h₆ := hs₆
    refine ⟨n + 1 - (i + 1), by omega, h₆, _, _, i + 1, _, rfl, ?_, hM₆, hZ₆, ?_, hn₂.sameBut hs₆ hCD, hlt, rfl, fun b' o h1 h2 h3 x => ?_⟩
    · exact hs₆.extBut _ _ (Ne.symm hDI) (hs₂.extBut _ _ (Ne.symm hCI) hst₁)
    · exact hT.put _ _ _
    · exact hs₆.extBut b' o h3 (up₂ b' o h1 h2 (hk b' o h1 h2 h3 x))
  · have hin : i = n := by omega
    subst hin
    refine W.done _ _ _ hst fun h₁ tk₁ hk₁ => ?_
    have up₁ : ∀ b' o, b' ≠ I → H.get? b' = some o → h₁.get? b' = some o := fun b' o h1 x => hk₁ b' o (fun q => h1 (List.mem_singleton.mp q)) x
    refine hR h₁ tk₁ m' f (hn'.at' fun o x => up₁ _ o hCI x) ?_ ?_ (hn ▸ hT) fun b' o h1 h2 h3 x => up₁ b' o h2 (hk b' o h1 h2 h3 x)
    · obtain ⟨o, es, ep, ho, r⟩ := hM'
      exact ⟨o, es, ep, up₁ _ o hDI ho, r⟩
    · obtain ⟨o, es, ep, ho, r⟩ := hM'
      exact hn ▸ hZ'.of_same ho (up₁ _ o hDI ho)
/-- what a key finds: the name x, the frame, the ledger -/
noncomputable def InTurnD (h₀ : Heap) (L : Addr) (m : Str → Option Value) (news : List (Addr × Obj)) (x : Str) (C : Addr) (k : Int) (h : Heap) : Prop :=
  ∃ t oC m₂, NsObj oC m₂ ∧ m₂ x = some (.int k t) ∧ Fr h₀ L h m ∧ News h₀ L h ((C, oC) :: news)
noncomputable def RangeV (h₀ : Heap) (L : Addr) (m : Str → Option Value) (news : List (Addr × Obj)) (n : Nat) (s : Shared) (v : Value) (s₁ : Shared) : Prop :=
  ∃ r h' tk t₀ u₀ v₀, v = .ref r ∧ s₁ = { s with heap := h', toks := tk } ∧ IsRange h' r 0 (n : Int) 1 t₀ u₀ v₀ ∧ Fr h₀ L h' m ∧ News h₀ L h' news
theorem dict_range {Q : Value → Shared → Prop} (F : Fr h₀ L s.heap m) (N : News h₀ L s.heap news) (hn : ks.length = n) (hlen : n ≤ 1000) (hh : A.handled = none)
    (hclos : closureFor scope env = pure cl) (hcell : ∀ y ∈ scope.names, y.2 ≠ .cell) (hkind : scope.kind = .function)
    (hnames : ∀ y ∈ scope.names, y.2 = .local → scope.names.lookup y.1 = some .local) (hx : scope.names.lookup x = some .local) (hdx : (x == ("__debug__" : Str)) = false)
    (hi : wpAny (model prog w) A (eval iter env) (RangeV h₀ L m news n s) E s)
    (hs : ∀ x, foldedSetIterable iter env x = pure x)
    (hkey : ∀ (i : Nat) C h, i < n → InTurnD h₀ L m news x C (i : Int) h → ∀ tk (E' : Value → Shared → Prop), wpAny (model prog w) A (eval kx (compEnvC scope cl C env)) (fun v s' => (∃ t, v = .int (ks.getD i 0) t) ∧ ∃ tk', s' = { s with heap := h, toks := tk' }) E' { s with heap := h, toks := tk })
    (hQ : ∀ D o h tk, Fr h₀ L h m → News h₀ L h ((D, o) :: news) → (∀ p ∈ news, p.1 ≠ D) → TabO o (tabAt ks ks.length) ks.length → Q (.ref D) { s with heap := h, toks := tk }) :
    wpAny (model prog w) A (eval (.DictComp kx (.Name x pv') [⟨.Name x px, iter, [], 0⟩] scope pos) env) Q E s := by
  rw [arm_eval_DictComp]
  refine wpAny_comprehension_free (use := none) rfl hs hclos hkind hnames (wpAny_mono hi (fun v s₁ h₁ => ?_) fun _ _ e => e)
  obtain ⟨r, h₁, tk₁, t₀, u₀, v₀, rfl, rfl, hr, F₁, N₁⟩ := h₁
  refine wpAny_pyIter_range hr (range0_small (by omega)) ?_
  rw [range0_size]
  refine wpAny_newObj_type (wpAny_newFunctionEnv hcell (by intro y hy; simp at hy) (fun h₂ hns₂ hsb₂ => ?_) hkind)
  dsimp only at hns₂ hsb₂ ⊢
  generalize hS : h₁.objs.size = S at *
  generalize hHI : h₁.push { cls := .type "range_iterator", data := .fields #[rawInt 0, rawInt (n : Int), rawInt 1] } = HI at hns₂ hsb₂ ⊢
  have hSI : HI.objs.size = S + 1 := by rw [← hHI, Heap.size_push, hS]
  have hIt : IsRangeIter HI S 0 n 1 := by rw [← hHI, ← hS]; exact Heap.get?_push_size _ rfl
  have hnewM : (HI.push { cls := .type "dict", dict := none, data := .dict #[] }).IntMap HI.objs.size fun _ => none := Heap.IntMap.new HI
  have hnewZ : (HI.push { cls := .type "dict", dict := none, data := .dict #[] }).DictLe HI.objs.size 0 := Heap.DictLe.new HI
  generalize hH2 : HI.push { cls := .type "dict", dict := none, data := .dict #[] } = H2 at hns₂ hsb₂ hnewM hnewZ ⊢
  have hC : H2.objs.size = S + 2 := by rw [← hH2, Heap.size_push, hSI]
  have hLs : @LT.lt Nat _ L S := hS ▸ F₁.ns.lt
  have lem : ∀ (b : Nat) o, h₁.get? b = some o → b < S := fun b o e => hS ▸ Heap.lt_size e
  have old : ∀ b o, HI.get? b = some o → h₂.get? b = some o := fun b o e => hsb₂.extBut b o (nne (by have := lts e; omega)) (Heap.get?_push_of_some _ (hH2 ▸ Heap.get?_push_of_some _ e))
  have up : ∀ b o, h₁.get? b = some o → HI.get? b = some o := fun b o e => hHI ▸ Heap.get?_push_of_some _ e
  have hM₂ : h₂.IntMap HI.objs.size fun _ => none := by
    obtain ⟨o, es, ep, ho, r⟩ := hnewM
    exact ⟨o, es, ep, hsb₂.extBut _ _ (nne (by omega)) (Heap.get?_push_of_some _ ho), r⟩
  have hZ₂ : h₂.DictLe HI.objs.size 0 := by
    obtain ⟨o, es, ep, ho, r⟩ := hnewM
    exact hnewZ.of_same ho (hsb₂.extBut _ _ (nne (by omega)) (Heap.get?_push_of_some _ ho))
  have hfresh : ∀ b : Nat, S ≤ b → h₀.get? b = none := fun b hb => by
    cases e : h₀.get? b with
    | none => rfl
    | some o => have := lem _ _ (F₁.keep _ _ e); omega
  refine codeAny_compStart_dict ?a ?b
  case b =>
    refine wpAny_pyIter_rangeiter (old _ _ hIt) ?_
    exact ?a
  refine range_loop (cenv := compEnvC scope cl H2.objs.size env) (I := S) hlen hn hh (lookup_relabel_local hx) (by simp [compEnvC, relabel, hkind]) hdx (nne (by omega)) (by show H2.objs.size ≠ _; exact nne (by omega)) (by show H2.objs.size ≠ _; exact nne (by omega))
    (old _ _ hIt) hM₂ hZ₂ hns₂ (fun i t s' m' E' hin hns' hm' hk' hs' => ?_) fun h' tk m' f hn' hM' hZ' hT' hk' => ?_
  · obtain ⟨h', tk', rfl⟩ := hs'
    have st : ∀ b o, h₁.get? b = some o → h'.get? b = some o := fun b o e => by
      have h1 := lem b o e
      exact hk' b o (by show b ≠ H2.objs.size; exact nne (by omega)) (nne (by omega)) (nne (by omega)) (old b o (up b o e))
    obtain ⟨oC, heC, hoC⟩ := ns_obj hns'
    refine hkey i H2.objs.size h' hin ⟨t, oC, m', hoC, hm', F₁.keeps st, fun p hp => ?_⟩ tk' E'
    rcases List.mem_cons.mp hp with rfl | hp
    · exact ⟨heC, by show H2.objs.size ≠ L; exact nne (by omega), hfresh _ (by omega)⟩
    · exact ⟨st _ _ (N₁ p hp).1, (N₁ p hp).2⟩
  · refine ⟨m', hn', fun h'' hs'' => ?_⟩
    replace hs'' : Heap.SameBut H2.objs.size h' h'' := hs''
    obtain ⟨o, es, ep, ho, r⟩ := hM'
    have hst : ∀ b o, h₁.get? b = some o → h''.get? b = some o := fun b o e => by
      have h1 := lem b o e
      exact hs''.extBut b o (nne (by omega)) (hk' b o (by show b ≠ H2.objs.size; exact nne (by omega)) (nne (by omega)) (nne (by omega)) (old b o (up b o e)))
    refine hQ _ o h'' tk (F₁.keeps hst) (fun p hp => ?_) (fun p hp => ?_) (TabO.of ho ⟨o, es, ep, ho, r⟩ hZ' hT')
    · rcases List.mem_cons.mp hp with rfl | hp
      · exact ⟨hs''.extBut _ _ (by show HI.objs.size ≠ _; exact nne (by omega)) ho, by show HI.objs.size ≠ L; exact nne (by omega), hfresh _ (by omega)⟩
      · exact ⟨hst _ _ (N₁ p hp).1, (N₁ p hp).2⟩
    · have := lem _ _ (N₁ p hp).1
      exact nne (by omega)
end

end
/-! Rules20 -/
section
/- --pure -/
noncomputable def CutPost (P : Value → Prop) (h₀ : Heap) (L : Addr) (m : Str → Option Value) (news : List (Addr × Obj)) (s : Shared) (v : Value) (s' : Shared) : Prop := P v ∧ ∃ h' tk', s' = { s with heap := h', toks := tk' } ∧ Fr h₀ L h' m ∧ News h₀ L h' news
theorem cutE {M : Model} {A : Around} {E : Value → Shared → Prop} {s : Shared} {h₀ : Heap} {L : Addr} {m : Str → Option Value} {news : List (Addr × Obj)} {e : Expr} {env : Env} {Q : Value → Shared → Prop} (P : Value → Prop) (_F : Fr h₀ L s.heap m) (_N : News h₀ L s.heap news)
    (h1 : wpAny M A (eval e env) (CutPost P h₀ L m news s) E s)
    (h2 : ∀ v h' tk', P v → Fr h₀ L h' m → News h₀ L h' news → Q v { s with heap := h', toks := tk' }) : wpAny M A (eval e env) Q E s :=
  wpAny_mono h1 (fun v s' ⟨p, h', tk', es, F', N'⟩ => by subst es; exact h2 v h' tk' p F' N') fun _ _ x => x
section
variable {prog : Program} {w : World} {A : Around} {E : Value → Shared → Prop} {s : Shared} {h₀ : Heap} {L D : Addr} {news : List (Addr × Obj)}
theorem item_tupP {value slice : PySem.Expr} {its : Array Value} {n : Nat} {i : Int} {u : Tok} {Q : Value → Shared → Prop} (P : Value → Prop) (N : News h₀ L s.heap news) (hm : (D, ({ cls := .type "tuple", data := .seq its n } : Obj)) ∈ news) (k : Nat) (hk : its.size = k) (h0 : 0 ≤ i) (h1 : i < (k : Int)) (hb : k < 1000)
    (hP : ∀ x ∈ its.toList, P x) (h : ∀ x, P x → Q x s)
    (hs : subscripted slice false (.ref D) (.int i u) = operate [.ref D, .int i u] (getItem (.ref D) (.int i u)) := by with_unfolding_all rfl) :
    wpAny (model prog w) A (subscriptTail value slice (.ref D) (.int i u)) Q E s := by
  subst hk
  have ht : IsTup s.heap D its := ⟨_, N.get hm, rfl, n, rfl⟩
  have hlt : i.toNat < its.size := by omega
  have hx : its[i.toNat]? = some its[i.toNat] := Array.getElem?_eq_getElem hlt
  have hq : Q its[i.toNat] s := h _ (hP _ (by simp))
  refine subscriptTail_builtinR (x := its[i.toNat]) ht.typeIs slot_tuple_getitem.lookup (getItem_tuple (j := i.toNat) ht (by omega) (by omega) ?_ hx ⟨rfl, hq⟩) hs
  have e : ¬ i < 0 := by omega
  simp only [seqIndex?, e, if_false]
  rw [if_pos (by simp only [Bool.and_eq_true, decide_eq_true_eq]; omega)]
end

end
/-! Rules21 -/
section
/- --pure -/
section
open PyProof.Rows.LCg PyProof.Rows.LCt
variable {prog : Program} {w : World} {A : Around} {E : Value → Shared → Prop} {s : Shared} {h₀ : Heap} {L : Addr} {m : Str → Option Value} {env : Env} {news : List (Addr × Obj)}
  {elt iter : Expr} {x : Str} {px : Pos} {scope : Scope} {cl : List (Str × Addr)} {pos : Pos} {n : Nat}
/-- `[elt for x in range(n)]` where elt may call -/
theorem comp_loudR {Q : Value → Shared → Prop} (g : Nat → Int) (F : Fr h₀ L s.heap m) (_N : News h₀ L s.heap news) (hh : A.handled = none) (hlen : n ≤ 1000)
    (hclos : closureFor scope env = pure cl) (hcell : ∀ y ∈ scope.names, y.2 ≠ .cell) (hkind : scope.kind = .function)
    (hnames : ∀ y ∈ scope.names, y.2 = .local → scope.names.lookup y.1 = some .local) (hx : scope.names.lookup x = some .local)
    (hi : wpAny (model prog w) A (eval iter env) (RangeV h₀ L m news n s) E s)
    (hs : ∀ x, foldedSetIterable iter env x = pure x)
    (hg : ∀ (i : Nat) I oI C oC D ys m₂ t h tk (E' : Value → Shared → Prop), i < n → NsObj oC m₂ → m₂ x = some (.int (i : Int) t) → Fr h₀ L h m → News h₀ L h ((I, oI) :: (C, oC) :: (D, lst ys) :: news) →
      wpAny (model prog w) A (eval elt (compEnvC scope cl C env)) (CutPost (fun v => ∃ t, v = .int (g i) t) h₀ L m ((I, oI) :: (C, oC) :: (D, lst ys) :: news) { s with heap := h, toks := tk }) E' { s with heap := h, toks := tk })
    (hQ : ∀ D ys h tk, Fr h₀ L h m → News h₀ L h ((D, lst ys) :: news) → (∀ p ∈ news, p.1 ≠ D) → IntsAre ys ((List.range n).map g) → Q (.ref D) { s with heap := h, toks := tk }) :
    wpAny (model prog w) A (eval (.ListComp elt [⟨.Name x px, iter, [], 0⟩] scope pos) env) Q E s := by
  refine ListComp_U F hclos hcell hkind hnames hx (wpAny_mono hi (fun v s₁ h₁ => ?_) fun _ _ e => e) hs
  obtain ⟨r, h₁, tk₁, t₀, u₀, v₀, rfl, rfl, hr, F₁, N₁⟩ := h₁
  refine CompSrc.range hh F₁ N₁ hr (range0_small (by omega)) (range0_size _) (by rw [sizeLine_eq]; omega) fun g' => ?_
  have key : ∀ (j i : Nat) (ys : List Value), i + j = n → IntsAre ys ((List.range i).map g) → CompRest prog w A h₀ L m env elt x scope cl { s with heap := g', toks := tk₁ } (fun _ => True) (fun i v => ∃ t, v = .int (0 + (i : Int)) t) (FinE h₀ L m { s with heap := g', toks := tk₁ } Q) j i ys news := by
    intro j
    induction j with
    | zero =>
      intro i ys hi hy
      have e : i = n := by omega
      subst e
      refine CompRest.zero fun D h tk F' N' o1 => hQ D ys h tk F' N' ?_ hy
      intro p hp
      have : ∀ {l : List (Addr × Obj)}, Off1 D l → ∀ p ∈ l, p.1 ≠ D := by
        intro l
        induction l with
        | nil => intro _ p hp; cases hp
        | cons a r ih =>
          intro o p hp
          rcases List.mem_cons.mp hp with rfl | hp
          · exact o.1
          · exact ih o.2 p hp
      exact this o1 p hp
    | succ j ih =>
      intro i ys hi hy
      refine CompRest.succ ?_
      intro v I oI C oC D m₂ h tk E' hv hC hx F' N' off ne
      obtain ⟨t, rfl⟩ := hv
      have e1 : (0 : Int) + (i : Int) = (i : Int) := by omega
      rw [e1] at hx
      refine wpAny_mono (hg i I oI C oC D ys m₂ t h tk E' (by omega) hC hx F' N') (fun y s₂ ⟨⟨t', e3⟩, h', tk', e4, F₂, N₂⟩ => ?_) fun _ _ e => e
      subst e3 e4
      refine ⟨h', tk', news, rfl, F₂, N₂, off, trivial, ih (i + 1) _ (by omega) ?_⟩
      rw [List.range_succ, List.map_append]
      exact IntsAre.append hy (.cons _ _ .nil)
  exact key n 0 [] (by omega) .nil
end

end
/-! Rules22 -/
section
/- --pure -/
/-! `y = [b for a in groups if c1 for b in a if c2]` -/
section
open PyProof.Rows.LCg PyProof.Rows.LCt
variable {prog : Program} {w : World} {A : Around} {E : Value → Shared → Prop} {R : Result → Shared → Prop} {s : Shared} {h₀ : Heap} {L : Addr} {m : Str → Option Value} {env : Env} {news : List (Addr × Obj)}
  {ct1 ct2 it1 : Expr} {g y z : Str} {pg pg' py py' pz : Pos} {scope : Scope} {cl : List (Str × Addr)} {pos spos : Pos}
abbrev nestE (ct1 ct2 it1 : Expr) (g y : Str) (pg pg' py py' : Pos) (scope : Scope) (pos : Pos) : Expr :=
  .ListComp (.Name y py') [⟨.Name g pg, it1, [ct1], 0⟩, ⟨.Name y py, .Name g pg', [ct2], 0⟩] scope pos
theorem nest_turn1 (it acc : Value) (env : Env) : compTurn (nestE ct1 ct2 it1 g y pg pg' py py' scope pos) 1 it acc env = (do
      standAt (Expr.Name g pg').pos
      match ← pyNext it with
      | none => pure (.done .next)
      | some v =>
        letOwnedTupleGo (.Name y py) it v
        assign (.Name y py) env v
        let mut ok := true
        for c in [ct2] do
          if ok then ok ← isTrue c env (eval c env)
        if ok then
          (do let _ ← call (.builtin "list.append") [acc, ← eval (.Name y py') env])
        again (.compLoop (nestE ct1 ct2 it1 g y pg pg' py py' scope pos) 1 it acc env)) := by rfl
theorem nest_turn0 (it acc : Value) (env : Env) : compTurn (nestE ct1 ct2 it1 g y pg pg' py py' scope pos) 0 it acc env = (do
      standAt it1.pos
      match ← pyNext it with
      | none => pure (.done .next)
      | some v =>
        letOwnedTupleGo (.Name g pg) it v
        assign (.Name g pg) env v
        let mut ok := true
        for c in [ct1] do
          if ok then ok ← isTrue c env (eval c env)
        if ok then
          let x ← eval (.Name g pg') env
          standAt (Expr.Name g pg').pos
          let x ← foldedSetIterable (.Name g pg') env x
          let _ ← runOwn (.compStart (nestE ct1 ct2 it1 g y pg pg' py py' scope pos) 1 (← holding [x] (pyIter x)) acc env) env
        again (.compLoop (nestE ct1 ct2 it1 g y pg pg' py py' scope pos) 0 it acc env)) := by rfl
theorem nest_inner {it acc : Value} {env : Env} (I : Nat → Shared → Prop)
    (turn : ∀ n s, I n s → wpAny (model prog w) A (pyNext it) (fun r s₁ => match r with
      | none => R (.ok .next) s₁
      | some v => wpAny (model prog w) A (assign (.Name y py) env v) (fun _ s₂ =>
          wpAny (model prog w) A (isTrue ct2 env (eval ct2 env)) (fun ok s₃ =>
            if ok = true then wpAny (model prog w) A (eval (.Name y py') env) (fun x s₄ =>
              wpAny (model prog w) A (call (.builtin "list.append") [acc, x]) (fun _ s₅ => ∃ m, m < n ∧ I m s₅) (notedBy (model prog w) A env fun e s' => R (.error e) s') s₄) (notedBy (model prog w) A env fun e s' => R (.error e) s') s₃
            else ∃ m, m < n ∧ I m s₃) (notedBy (model prog w) A env fun e s' => R (.error e) s') s₂) (notedBy (model prog w) A env fun e s' => R (.error e) s') s₁) (notedBy (model prog w) A env fun e s' => R (.error e) s') s)
    (n : Nat) (h : I n s) : codeAny (model prog w) A (.compLoop (nestE ct1 ct2 it1 g y pg pg' py py' scope pos) 1 it acc env) R s := by
  refine codeAny_loop rfl I (fun n s hI => ?_) n h
  show wpAny _ A ((compTurn (nestE ct1 ct2 it1 g y pg pg' py py' scope pos) 1 it acc env).onRaise (fun x => do noteFrame x env; theTreesLotGoes x)) _ _ s
  refine wpAny_noted ?_
  rw [nest_turn1]
  refine wpAny_bind (wpAny_standAt (wpAny_bind (wpAny_mono (turn n s hI) (fun r s₁ h₁ => ?_) fun _ _ h' => h')))
  cases r with
  | none => exact wpAny_pure h₁
  | some v =>
    refine wpAny_bind (wpAny_of_eq (a := ()) rfl ?_)
    refine wpAny_bind (wpAny_mono h₁ (fun _ s₂ h₂ => wpAny_bind (wpAny_mono (wpAny_tests_one h₂) (fun ok s₃ h₃ => ?_) fun _ _ h' => h')) fun _ _ h' => h')
    cases ok with
    | false => exact wpAny_pure ⟨rfl, h₃⟩
    | true =>
      exact wpAny_bind (wpAny_bind (wpAny_mono h₃ (fun x s₄ h₄ => wpAny_bind (wpAny_mono h₄ (fun _ s₅ h₅ => wpAny_pure (wpAny_pure ⟨rfl, h₅⟩)) fun _ _ h' => h')) fun _ _ h' => h'))
theorem nest_outer {it acc : Value} {env : Env} (hs2 : ∀ x, foldedSetIterable (.Name g pg') env x = pure x) (I : Nat → Shared → Prop)
    (turn : ∀ n s, I n s → wpAny (model prog w) A (pyNext it) (fun r s₁ => match r with
      | none => R (.ok .next) s₁
      | some v => wpAny (model prog w) A (assign (.Name g pg) env v) (fun _ s₂ =>
          wpAny (model prog w) A (isTrue ct1 env (eval ct1 env)) (fun ok s₃ =>
            if ok = true then wpAny (model prog w) A (eval (.Name g pg') env) (fun x s₄ =>
              wpAny (model prog w) A (pyIter x) (fun it' s₅ => codeAny (model prog w) (A.mark none) (.compStart (nestE ct1 ct2 it1 g y pg pg' py py' scope pos) 1 it' acc env) (fun r s₆ => match r with | .ok _ => ∃ m, m < n ∧ I m s₆ | .error e => cameBackBy (model prog w) A env (notedBy (model prog w) A env fun e s' => R (.error e) s') e s₆) s₅) (notedBy (model prog w) A env fun e s' => R (.error e) s') s₄) (notedBy (model prog w) A env fun e s' => R (.error e) s') s₃
            else ∃ m, m < n ∧ I m s₃) (notedBy (model prog w) A env fun e s' => R (.error e) s') s₂) (notedBy (model prog w) A env fun e s' => R (.error e) s') s₁) (notedBy (model prog w) A env fun e s' => R (.error e) s') s)
    (n : Nat) (h : I n s) : codeAny (model prog w) A (.compLoop (nestE ct1 ct2 it1 g y pg pg' py py' scope pos) 0 it acc env) R s := by
  refine codeAny_loop rfl I (fun n s hI => ?_) n h
  show wpAny _ A ((compTurn (nestE ct1 ct2 it1 g y pg pg' py py' scope pos) 0 it acc env).onRaise (fun x => do noteFrame x env; theTreesLotGoes x)) _ _ s
  refine wpAny_noted ?_
  rw [nest_turn0]
  refine wpAny_bind (wpAny_standAt (wpAny_bind (wpAny_mono (turn n s hI) (fun r s₁ h₁ => ?_) fun _ _ h' => h')))
  cases r with
  | none => exact wpAny_pure h₁
  | some v =>
    refine wpAny_bind (wpAny_of_eq (a := ()) rfl ?_)
    refine wpAny_bind (wpAny_mono h₁ (fun _ s₂ h₂ => wpAny_bind (wpAny_mono (wpAny_tests_one h₂) (fun ok s₃ h₃ => ?_) fun _ _ h' => h')) fun _ _ h' => h')
    cases ok with
    | false => exact wpAny_pure ⟨rfl, h₃⟩
    | true =>
      refine wpAny_bind (wpAny_mono h₃ (fun x s₄ h₄ => ?_) fun _ _ h' => h')
      refine wpAny_bind (wpAny_standAt (wpAny_bind (wpAny_of_eq (hs2 x) (wpAny_bind (wpAny_holding (wpAny_mono h₄ (fun it' s₅ h₅ => ?_) fun _ _ h' => h'))))))
      refine wpAny_bind (wpAny_mono (wpAny_runOwn (Q := fun _ s₆ => ∃ m, m < n ∧ I m s₆) h₅ (by simp)) (fun _ s₆ h₆ => ?_) fun _ _ h' => h')
      first
        | exact wpAny_pure ⟨rfl, h₆⟩
        | exact wpAny_bind (wpAny_pure (wpAny_pure ⟨rfl, h₆⟩))
theorem nest_start1 {it acc : Value} {env : Env}
    (h0 : codeAny (model prog w) A (.compLoop (nestE ct1 ct2 it1 g y pg pg' py py' scope pos) 1 it acc env) R s)
    (h : wpAny (model prog w) A (pyIter it) (fun it' s' => codeAny (model prog w) A (.compLoop (nestE ct1 ct2 it1 g y pg pg' py py' scope pos) 1 it' acc env) R s') (notedBy (model prog w) A env fun x s' => R (.error x) s') s) :
    codeAny (model prog w) A (.compStart (nestE ct1 ct2 it1 g y pg pg' py py' scope pos) 1 it acc env) R s := by
  refine codeAny_of_tree ?_
  show wpAny _ A ((compStart (nestE ct1 ct2 it1 g y pg pg' py py' scope pos) 1 it acc env).onRaise (fun x => do noteFrame x env; standAt theWindowsPlace)) _ _ s
  refine wpAny_notedAt ?_
  unfold compStart
  show wpAny _ A (ask >>= _) _ _ s
  refine wpAny_bind (wpAny_askSetting (wpAny_ite ?_))
  split
  · first
      | exact wpAny_bind (wpAny_pure (wpAny_pure (And.intro rfl h0)))
      | exact wpAny_pure (And.intro rfl h0)
  · first
      | exact wpAny_bind (wpAny_rule (wpAny_bind (wpAny_standAt (wpAny_bind (wpAny_mono h (fun it' s' h' => wpAny_pure (And.intro rfl h')) fun _ _ x => x)))))
      | (refine wpAny_bind (wpAny_rule ?_); show wpAny _ _ (standAt (Expr.Name g pg').pos >>= _) _ _ s; exact wpAny_bind (wpAny_standAt (wpAny_bind (wpAny_mono h (fun it' s' h' => wpAny_pure (And.intro rfl h')) fun _ _ x => x))))
end

end
/-! Rules23 -/
section
/- --pure -/
section
open PyProof.Rows.LCg PyProof.Rows.LCt
variable {prog : Program} {w : World} {A : Around} {E : Value → Shared → Prop} {R : Result → Shared → Prop} {s : Shared} {h₀ : Heap} {L : Addr} {m : Str → Option Value} {env : Env} {news : List (Addr × Obj)}
  {ct1 ct2 it1 : Expr} {g y z : Str} {pg pg' py py' pz : Pos} {scope : Scope} {cl : List (Str × Addr)} {pos spos : Pos}
theorem inner_run {cenv : Env} {J ax D : Addr} {vs ys₀ : List Value} {ks xs₀ : List Int} {m : Str → Option Value} (q : Int → Bool) (hlen : xs₀.length + ks.length ≤ 1000) (hh : A.handled = none) (hy : cenv.kindOf y = some .local) (hck : cenv.scope.kind = .function) (hdy : (y == ("__debug__" : Str)) = false)
    (hDJ : D ≠ J) (hDC : D ≠ cenv.locals) (hJC : J ≠ cenv.locals) (haJ : ax ≠ J) (haC : ax ≠ cenv.locals) (haD : ax ≠ D)
    (hit : s.heap.IsTupleIter J ax 0) (ht : s.heap.IsTuple ax vs.toArray) (hI : IntsAre vs ks) (hacc : s.heap.get? D = some (lst ys₀)) (hxs : IntsAre ys₀ xs₀) (hns : s.heap.Ns cenv.locals m)
    (htest : ∀ (k : Int) (t : Tok) (s' : Shared) (m' : Str → Option Value) (E' : Value → Shared → Prop), k ∈ ks → s'.heap.Ns cenv.locals m' → m' y = some (.int k t) → (∀ b o, b ≠ cenv.locals → b ≠ J → b ≠ D → s.heap.get? b = some o → s'.heap.get? b = some o) → (∃ h' tk', s' = { s with heap := h', toks := tk' }) →
      wpAny (model prog w) A (isTrue ct2 cenv (eval ct2 cenv)) (fun ok s'' => ok = q k ∧ ∃ tk', s'' = { s' with toks := tk' }) E' s')
    (hR : ∀ h' tk m' ys, h'.Ns cenv.locals m' → h'.get? D = some (lst ys) → IntsAre ys (xs₀ ++ ks.filter q) → (∀ b o, b ≠ cenv.locals → b ≠ J → b ≠ D → s.heap.get? b = some o → h'.get? b = some o) → R (.ok .next) { s with heap := h', toks := tk }) :
    codeAny (model prog w) A (.compLoop (nestE ct1 ct2 it1 g y pg pg' py py' scope pos) 1 (.ref J) (.ref D) cenv) R s := by
  have hl : vs.length = ks.length := hI.length
  have hp : (cenv.scope.kind == .class || (cenv.scope.kind == .module && cenv.locals != cenv.globals)) = false := by rw [hck]; rfl
  refine nest_inner
    (fun k s' => ∃ h' tk m' ys i, s' = { s with heap := h', toks := tk } ∧ h'.IsTupleIter J ax i ∧ h'.IsTuple ax vs.toArray ∧ h'.get? D = some (lst ys) ∧ IntsAre ys (xs₀ ++ (ks.take i).filter q) ∧ h'.Ns cenv.locals m' ∧ i ≤ ks.length ∧ k = ks.length + 1 - i ∧
      ∀ b o, b ≠ cenv.locals → b ≠ J → b ≠ D → s.heap.get? b = some o → h'.get? b = some o) ?_ (ks.length + 1)
    ⟨s.heap, s.toks, m, ys₀, 0, rfl, hit, ht, hacc, by simpa using hxs, hns, Nat.zero_le _, rfl, fun _ _ _ _ _ x => x⟩
  rintro k s' ⟨H, tk, m', ys, i, rfl, hit', ht', hacc', hys, hn', hi, rfl, hk⟩
  by_cases hlt : i < ks.length
  · obtain ⟨v, hv⟩ : ∃ v, vs.toArray[i]? = some v := ⟨_, Array.getElem?_eq_getElem (by simp; omega)⟩
    obtain ⟨n, t, rfl, hn⟩ := IntsAre.at hI i v (by simpa using hv)
    have hmem : n ∈ ks := List.mem_of_getElem? hn
    have htake : (ks.take (i + 1)).filter q = (ks.take i).filter q ++ (if q n then [n] else []) := by
      rw [List.take_add_one, hn, List.filter_append]
      cases hq : q n <;> simp [hq]
    refine wpAny_pyNext_tuple_item hit' ht' hv fun h₁ hit₁ hs₁ => ?_
    refine wpAny_assign_Name (wpAny_storeName_local hy (hn'.sameBut hs₁ (Ne.symm hJC)) (fun h₂ hn₂ hs₂ => ?_) hp)
    replace hs₁ : Heap.SameBut J H h₁ := hs₁
    replace hs₂ : Heap.SameBut cenv.locals h₁ h₂ := hs₂
    have up₂ : ∀ b o, b ≠ cenv.locals → b ≠ J → H.get? b = some o → h₂.get? b = some o := fun b o h1 h2 x => hs₂.extBut b o h1 (hs₁.extBut b o h2 x)
    have hit₂ : h₂.IsTupleIter J ax (i + 1) := hit₁.at fun o e => hs₂.extBut _ o hJC e
    have ht₂ : h₂.IsTuple ax vs.toArray := ht'.at fun o e => up₂ _ o haC haJ e
    have hacc₂ : h₂.get? D = some (lst ys) := up₂ _ _ hDC hDJ hacc'
    have hmy : (fun x => if x = y then some (Value.int n t) else m' x) y = some (.int n t) := by simp
    refine wpAny_mono (htest n t { s with heap := h₂, toks := tk + 1 } _ _ hmem hn₂ hmy (fun b o h1 h2 h3 x => up₂ b o h1 h2 (hk b o h1 h2 h3 x)) ⟨h₂, _, rfl⟩) (fun ok s₃ ⟨e3, tk3, e4⟩ => ?_) fun _ _ x => x
    subst e3 e4
    cases hq : q n with
    | false =>
      rw [if_neg Bool.false_ne_true]
      refine ⟨ks.length + 1 - (i + 1), by omega, h₂, tk3, _, ys, i + 1, rfl, hit₂, ht₂, hacc₂, ?_, hn₂, hlt, rfl, fun b o h1 h2 h3 x => up₂ b o h1 h2 (hk b o h1 h2 h3 x)⟩
      rw [htake, hq]
      simpa using hys
    | true =>
      rw [if_pos rfl]
      refine wpAny_Name (wpAny_loadName_local hck hy hn₂ hmy ?_) hdy
      have hsz : ys.toArray.size ≤ sizeLine := by
        have e1 := hys.length
        rw [List.length_append] at e1
        have e2 : ((ks.take i).filter q).length ≤ (ks.take i).length := List.length_filter_le _ _
        rw [List.length_take] at e2
        rw [sizeLine_eq, List.size_toArray]
        omega
      refine append_at (hsz := hsz) hacc₂ fun h₅ hs₅ ho₅ => ?_
      replace hs₅ : Heap.SameBut D h₂ h₅ := hs₅
      rw [lst_snoc] at ho₅
      refine ⟨ks.length + 1 - (i + 1), by omega, h₅, tk3, _, _, i + 1, rfl, hit₂.at fun o e => hs₅.extBut _ o (Ne.symm hDJ) e, ht₂.at fun o e => hs₅.extBut _ o haD e, ho₅, ?_, hn₂.sameBut hs₅ (Ne.symm hDC), hlt, rfl, fun b o h1 h2 h3 x => hs₅.extBut b o h3 (up₂ b o h1 h2 (hk b o h1 h2 h3 x))⟩
      rw [htake, hq, if_pos rfl, ← List.append_assoc]
      exact IntsAre.append hys (.cons _ _ .nil)
  · have hin : i = ks.length := by omega
    subst hin
    refine wpAny_pyNext_tuple_end hh hit' ht' (by simp; omega) fun h₁ he₁ => ?_
    replace he₁ : Heap.ExtBut J H h₁ := he₁
    refine hR h₁ tk m' ys (hn'.extBut he₁ (Ne.symm hJC)) (he₁ _ _ hDJ hacc') ?_ fun b o h1 h2 h3 x => he₁ b o h2 (hk b o h1 h2 h3 x)
    rwa [List.take_length] at hys
noncomputable def grpsF (q1 : List Int → Bool) (q2 : Int → Bool) (gs : List (Addr × List Int)) : List Int := gs.flatMap fun a => if q1 a.2 then a.2.filter q2 else []
theorem grpsF_len (q1 : List Int → Bool) (q2 : Int → Bool) : ∀ gs : List (Addr × List Int), (∀ a ∈ gs, a.2.length ≤ 3) → (grpsF q1 q2 gs).length ≤ 3 * gs.length
  | [], _ => by simp [grpsF]
  | a :: r, h => by
    have ih := grpsF_len q1 q2 r fun b hb => h b (List.mem_cons_of_mem _ hb)
    have h1 := h a (List.mem_cons_self ..)
    unfold grpsF at ih ⊢
    rw [List.flatMap_cons, List.length_append, List.length_cons]
    have h2 : (a.2.filter q2).length ≤ a.2.length := List.length_filter_le _ _
    have h3 : (if q1 a.2 = true then a.2.filter q2 else []).length ≤ 3 := by
      cases q1 a.2
      · simp
      · rw [if_pos rfl]; exact Nat.le_trans h2 h1
    have h4 : (List.flatMap (fun a => if q1 a.2 = true then a.2.filter q2 else []) r).length ≤ 3 * r.length := ih
    have := Nat.add_le_add h3 h4
    rw [Nat.mul_add, Nat.mul_one, Nat.add_comm (3 * _)]
    exact this
/-- a group stands below -/
noncomputable def Grp (h : Heap) (a : Addr) (ks : List Int) : Prop := ∃ vs : List Value, h.IsTuple a vs.toArray ∧ IntsAre vs ks
theorem outer_run {cenv : Env} {I aG D : Addr} {gs : List (Addr × List Int)} {m : Str → Option Value} (q1 : List Int → Bool) (q2 : Int → Bool) (hgl : ∀ a ∈ gs, a.2.length ≤ 3) (hgn : gs.length ≤ 10) (hh : A.handled = none) (hg : cenv.kindOf g = some .local) (hy : cenv.kindOf y = some .local) (hck : cenv.scope.kind = .function) (hdy : (y == ("__debug__" : Str)) = false) (hdg : (g == ("__debug__" : Str)) = false)
    (hs2 : ∀ x, foldedSetIterable (.Name g pg') cenv x = pure x)
    (hDI : D ≠ I) (hDC : D ≠ cenv.locals) (hIC : I ≠ cenv.locals) (haI : aG ≠ I) (haC : aG ≠ cenv.locals) (haD : aG ≠ D) (hoff : ∀ a ∈ gs, a.1 ≠ I ∧ a.1 ≠ cenv.locals ∧ a.1 ≠ D)
    (hit : s.heap.IsTupleIter I aG 0) (ht : s.heap.IsTuple aG (gs.map fun a => Value.ref a.1).toArray) (hG : ∀ a ∈ gs, Grp s.heap a.1 a.2) (hacc : s.heap.get? D = some (lst [])) (hns : s.heap.Ns cenv.locals m)
    (htest1 : ∀ (a : Addr × List Int) (s' : Shared) (m' : Str → Option Value) (E' : Value → Shared → Prop), a ∈ gs → s'.heap.Ns cenv.locals m' → m' g = some (.ref a.1) → (∀ b o, b ≠ cenv.locals → b ≠ I → b ≠ D → s.heap.get? b = some o → s'.heap.get? b = some o) → (∃ h' tk', s' = { s with heap := h', toks := tk' }) →
      wpAny (model prog w) A (isTrue ct1 cenv (eval ct1 cenv)) (fun ok s'' => ok = q1 a.2 ∧ ∃ tk', s'' = { s' with toks := tk' }) E' s')
    (htest2 : ∀ (a : Addr × List Int) (k : Int) (t : Tok) (s' : Shared) (m' : Str → Option Value) (E' : Value → Shared → Prop), a ∈ gs → k ∈ a.2 → s'.heap.Ns cenv.locals m' → m' y = some (.int k t) → (∀ b o, b ≠ cenv.locals → b ≠ I → b ≠ D → s.heap.get? b = some o → s'.heap.get? b = some o) → (∃ h' tk', s' = { s with heap := h', toks := tk' }) →
      wpAny (model prog w) (A.mark none) (isTrue ct2 cenv (eval ct2 cenv)) (fun ok s'' => ok = q2 k ∧ ∃ tk', s'' = { s' with toks := tk' }) E' s')
    (hR : ∀ h' tk m' ys, h'.Ns cenv.locals m' → h'.get? D = some (lst ys) → IntsAre ys (grpsF q1 q2 gs) → (∀ b o, b ≠ cenv.locals → b ≠ I → b ≠ D → s.heap.get? b = some o → h'.get? b = some o) → R (.ok .next) { s with heap := h', toks := tk }) :
    codeAny (model prog w) A (.compLoop (nestE ct1 ct2 it1 g y pg pg' py py' scope pos) 0 (.ref I) (.ref D) cenv) R s := by
  have hp : (cenv.scope.kind == .class || (cenv.scope.kind == .module && cenv.locals != cenv.globals)) = false := by rw [hck]; rfl
  refine nest_outer hs2
    (fun k s' => ∃ h' tk m' ys i, s' = { s with heap := h', toks := tk } ∧ h'.IsTupleIter I aG i ∧ h'.get? D = some (lst ys) ∧ IntsAre ys (grpsF q1 q2 (gs.take i)) ∧ h'.Ns cenv.locals m' ∧ i ≤ gs.length ∧ k = gs.length + 1 - i ∧
      ∀ b o, b ≠ cenv.locals → b ≠ I → b ≠ D → s.heap.get? b = some o → h'.get? b = some o) ?_ (gs.length + 1)
    ⟨s.heap, s.toks, m, [], 0, rfl, hit, hacc, .nil, hns, Nat.zero_le _, rfl, fun _ _ _ _ _ x => x⟩
  rintro k s' ⟨H, tk, m', ys, i, rfl, hit', hacc', hys, hn', hi, rfl, hk⟩
  have ht' : H.IsTuple aG (gs.map fun a => Value.ref a.1).toArray := ht.at fun o e => hk _ o haC haI haD e
  by_cases hlt : i < gs.length
  · obtain ⟨a, hga⟩ : ∃ a, gs[i]? = some a := ⟨_, List.getElem?_eq_getElem hlt⟩
    have hmem : a ∈ gs := List.mem_of_getElem? hga
    obtain ⟨hoI, hoC, hoD⟩ := hoff a hmem
    have hv : ((gs.map fun a => Value.ref a.1).toArray)[i]? = some (.ref a.1) := by simp [hga]
    have htake : grpsF q1 q2 (gs.take (i + 1)) = grpsF q1 q2 (gs.take i) ++ (if q1 a.2 then a.2.filter q2 else []) := by
      unfold grpsF
      rw [List.take_add_one, hga, List.flatMap_append]
      simp
    refine wpAny_pyNext_tuple_item hit' ht' hv fun h₁ hit₁ hs₁ => ?_
    refine wpAny_assign_Name (wpAny_storeName_local hg (hn'.sameBut hs₁ (Ne.symm hIC)) (fun h₂ hn₂ hs₂ => ?_) hp)
    replace hs₁ : Heap.SameBut I H h₁ := hs₁
    replace hs₂ : Heap.SameBut cenv.locals h₁ h₂ := hs₂
    have up₂ : ∀ b o, b ≠ cenv.locals → b ≠ I → H.get? b = some o → h₂.get? b = some o := fun b o h1 h2 x => hs₂.extBut b o h1 (hs₁.extBut b o h2 x)
    have hit₂ : h₂.IsTupleIter I aG (i + 1) := hit₁.at fun o e => hs₂.extBut _ o hIC e
    have hacc₂ : h₂.get? D = some (lst ys) := up₂ _ _ hDC hDI hacc'
    have hmg : (fun x => if x = g then some (Value.ref a.1) else m' x) g = some (.ref a.1) := by simp
    refine wpAny_mono (htest1 a { s with heap := h₂, toks := tk + 1 } _ _ hmem hn₂ hmg (fun b o h1 h2 h3 x => up₂ b o h1 h2 (hk b o h1 h2 h3 x)) ⟨h₂, _, rfl⟩) (fun ok s₃ ⟨e3, tk3, e4⟩ => ?_) fun _ _ x => x
    subst e3 e4
    cases hq : q1 a.2 with
    | false =>
      rw [if_neg Bool.false_ne_true]
      refine ⟨gs.length + 1 - (i + 1), by omega, h₂, tk3, _, ys, i + 1, rfl, hit₂, hacc₂, ?_, hn₂, hlt, rfl, fun b o h1 h2 h3 x => up₂ b o h1 h2 (hk b o h1 h2 h3 x)⟩
      rw [htake, hq]
      simpa using hys
    | true =>
      rw [if_pos rfl]
      refine wpAny_Name (wpAny_loadName_local hck hg hn₂ hmg ?_) hdg
      obtain ⟨vs, hta, hI⟩ := hG a hmem
      have hta₂ : h₂.IsTuple a.1 vs.toArray := hta.at fun o e => up₂ _ o hoC hoI (hk _ o hoC hoI hoD e)
      refine wpAny_pyIter_tuple hta₂ ?_
      generalize hJ : h₂.objs.size = J at *
      have lem : ∀ (b : Nat) o, h₂.get? b = some o → b ≠ J := fun b o e => hJ ▸ Nat.ne_of_lt (Heap.lt_size e)
      have push : ∀ b o, h₂.get? b = some o → (h₂.push { cls := .type "tuple_iterator", data := .fields #[.ref a.1, .int 0 0] }).get? b = some o := fun b o e => Heap.get?_push_of_some _ e
      have hJit : (h₂.push { cls := .type "tuple_iterator", data := .fields #[.ref a.1, .int 0 0] }).IsTupleIter J a.1 0 := ⟨_, hJ ▸ Heap.get?_push_size _ rfl, rfl, rfl⟩
      obtain ⟨oT, hoT, _⟩ := id hta₂
      obtain ⟨oI, hoI2, _⟩ := id hit₂
      obtain ⟨oC, heC, _⟩ := ns_obj hn₂
      have hlys : (grpsF q1 q2 (gs.take i)).length + a.2.length ≤ 1000 := by
        have e1 := grpsF_len q1 q2 (gs.take i) fun b hb => hgl b (List.mem_of_mem_take hb)
        rw [List.length_take] at e1
        have e2 := hgl a hmem
        omega
      refine nest_start1 ?ga ?gb
      case gb => exact wpAny_pyIter_tupleiter hJit ?ga
      refine inner_run q2 hlys (by exact hh) hy hck hdy (lem _ _ hacc₂) hDC (Ne.symm (lem _ _ heC)) (lem _ _ hoT) hoC hoD hJit (hta₂.at fun o e => push _ o e) hI (push _ _ hacc₂) hys (hn₂.keeps push)
        (fun k t s' m'' E' hkm hn'' hm'' hkeep hs' => ?_) fun h' tk' m'' ys' hn'' hacc'' hys'' hkeep => ?_
      · obtain ⟨h', tk', rfl⟩ := hs'
        exact htest2 a k t _ _ _ hmem hkm hn'' hm'' (fun b o h1 h2 h3 x => by
          have x2 := up₂ b o h1 h2 (hk b o h1 h2 h3 x)
          exact hkeep b o h1 (lem _ _ x2) h3 (push _ _ x2)) ⟨h', tk', rfl⟩
      · refine ⟨gs.length + 1 - (i + 1), by omega, h', tk', _, ys', i + 1, rfl, ?_, hacc'', ?_, hn'', hlt, rfl, fun b o h1 h2 h3 x => ?_⟩
        · exact hit₂.at fun o e => hkeep _ o hIC (lem _ _ e) (Ne.symm hDI) (push _ _ e)
        · rw [htake, hq, if_pos rfl]
          exact hys''
        · have x2 := up₂ b o h1 h2 (hk b o h1 h2 h3 x)
          exact hkeep b o h1 (lem _ _ x2) h3 (push _ _ x2)
  · have hin : i = gs.length := by omega
    subst hin
    refine wpAny_pyNext_tuple_end hh hit' ht' (by simp) fun h₁ he₁ => ?_
    replace he₁ : Heap.ExtBut I H h₁ := he₁
    refine hR h₁ tk m' ys (hn'.extBut he₁ (Ne.symm hIC)) (he₁ _ _ hDI hacc') ?_ fun b o h1 h2 h3 x => he₁ b o h2 (hk b o h1 h2 h3 x)
    rwa [List.take_length] at hys
end

end
/-! Rules24 -/
section
/- --pure -/
section
open PyProof.Rows.LCg PyProof.Rows.LCt
variable {prog : Program} {w : World} {A : Around} {E : Value → Shared → Prop} {s : Shared} {h₀ : Heap} {L : Addr} {m : Str → Option Value} {env : Env} {news : List (Addr × Obj)}
  {ct1 ct2 it1 : Expr} {g y z : Str} {pg pg' py py' pz : Pos} {scope : Scope} {cl : List (Str × Addr)} {pos spos : Pos}
noncomputable def InT (h₀ : Heap) (L : Addr) (m : Str → Option Value) (news : List (Addr × Obj)) (x : Str) (v : Value) (C : Addr) (h : Heap) : Prop :=
  ∃ oC m₂, NsObj oC m₂ ∧ m₂ x = some v ∧ Fr h₀ L h m ∧ News h₀ L h ((C, oC) :: news)
theorem nest_assign {Q : Flow → Shared → Prop} {aG : Addr} {gs : List (Addr × List Int)} (q1 : List Int → Bool) (q2 : Int → Bool) (F : Fr h₀ L s.heap m) (N : News h₀ L s.heap news) (hLe : env.locals = L) (hh : A.handled = none) (hgl : ∀ a ∈ gs, a.2.length ≤ 3) (hgn : gs.length ≤ 10)
    (hT : h₀.IsTuple aG (gs.map fun a => Value.ref a.1).toArray) (hG : ∀ a ∈ gs, Grp h₀ a.1 a.2)
    (hsw : swapsWith (nestE ct1 ct2 it1 g y pg pg' py py' scope pos) (some (.Name z pz)) spos.line env = pure true)
    (hclos : closureFor scope env = pure cl) (hcell : ∀ y ∈ scope.names, y.2 ≠ .cell) (hkind : scope.kind = .function)
    (hnames : ∀ y ∈ scope.names, y.2 = .local → scope.names.lookup y.1 = some .local) (hg : scope.names.lookup g = some .local) (hy : scope.names.lookup y = some .local) (hdy : (y == ("__debug__" : Str)) = false) (hdg : (g == ("__debug__" : Str)) = false)
    (hz : env.kindOf z = some .local) (hp : (env.scope.kind == .class || (env.scope.kind == .module && env.locals != env.globals)) = false)
    (hi : wpAny (model prog w) A (eval it1 env) (fun v s₁ => v = .ref aG ∧ s₁ = s) E s)
    (hs : ∀ x, foldedSetIterable it1 env x = pure x) (hs2 : ∀ env' x, foldedSetIterable (.Name g pg') env' x = pure x)
    (hq1 : ∀ a C h, a ∈ gs → InT h₀ L m news g (.ref a.1) C h → ∀ tk (E' : Value → Shared → Prop), wpAny (model prog w) A (isTrue ct1 (compEnvC scope cl C env) (eval ct1 (compEnvC scope cl C env))) (fun ok s'' => ok = q1 a.2 ∧ ∃ tk', s'' = { s with heap := h, toks := tk' }) E' { s with heap := h, toks := tk })
    (hq2 : ∀ (a : Addr × List Int) k t C h, a ∈ gs → k ∈ a.2 → InT h₀ L m news y (.int k t) C h → ∀ tk (E' : Value → Shared → Prop), wpAny (model prog w) (A.mark none) (isTrue ct2 (compEnvC scope cl C env) (eval ct2 (compEnvC scope cl C env))) (fun ok s'' => ok = q2 k ∧ ∃ tk', s'' = { s with heap := h, toks := tk' }) E' { s with heap := h, toks := tk })
    (hQ : ∀ D ys h tk, Fr h₀ L h (fun x => if x = z then some (.ref D) else m x) → News h₀ L h ((D, lst ys) :: news) → (∀ p ∈ news, p.1 ≠ D) → IntsAre ys (grpsF q1 q2 gs) → Q .next { s with heap := h, toks := tk }) :
    wpAny (model prog w) A (exec (.Assign [.Name z pz] (nestE ct1 ct2 it1 g y pg pg' py py' scope pos) spos) env) Q E s := by
  subst hLe
  rw [exec_Assign_Name_used _ _ _ _ hsw]
  refine wpAny_bind (wpAny_standAt (wpAny_bind ?_))
  show wpAny _ A (do let _ ← comprehension (nestE ct1 ct2 it1 g y pg pg' py py' scope pos) scope env _ (newList []) false (eval it1 env) (some (assign (.Name z pz) env))) _ _ s
  refine wpAny_bind (wpAny_mono (wpAny_comprehension_free (use := some (assign (.Name z pz) env)) (Q := fun _ s' => Q .next s') rfl hs hclos hkind hnames
    (wpAny_mono hi (fun v s₁ ⟨ev, es⟩ => ?_) fun _ _ e => e)) (fun _ s' hq => wpAny_pure (wpAny_pure hq)) fun _ _ e => e)
  subst ev es
  have htup : s₁.heap.IsTuple aG (gs.map fun a => Value.ref a.1).toArray := hT.at fun o e => F.keep _ _ e
  refine wpAny_pyIter_tuple htup ?_
  refine wpAny_newObj_type (wpAny_newFunctionEnv hcell (by intro y hy; simp at hy) (fun h₂ hns₂ hsb₂ => ?_) hkind) (by size_fits)
  dsimp only at hns₂ hsb₂ ⊢
  generalize hS : s₁.heap.objs.size = S at *
  generalize hHI : s₁.heap.push { cls := .type "tuple_iterator", data := .fields #[.ref aG, .int 0 0] } = HI at hns₂ hsb₂ ⊢
  have hSI : HI.objs.size = S + 1 := by rw [← hHI, Heap.size_push, hS]
  have hIt : HI.IsTupleIter S aG 0 := by rw [← hHI, ← hS]; exact ⟨_, Heap.get?_push_size _ rfl, rfl, rfl⟩
  generalize hH2 : HI.push { cls := .type "list", data := .seq #[] 0 } = H2 at hns₂ hsb₂ ⊢
  have hC : H2.objs.size = S + 2 := by rw [← hH2, Heap.size_push, hSI]
  have hLs : @LT.lt Nat _ env.locals S := hS ▸ F.ns.lt
  have lem : ∀ (b : Nat) o, s₁.heap.get? b = some o → b < S := fun b o e => hS ▸ Heap.lt_size e
  have old : ∀ b o, HI.get? b = some o → h₂.get? b = some o := fun b o e => hsb₂.extBut b o (nne (by have := lts e; omega)) (Heap.get?_push_of_some _ (hH2 ▸ Heap.get?_push_of_some _ e))
  have up : ∀ b o, s₁.heap.get? b = some o → HI.get? b = some o := fun b o e => hHI ▸ Heap.get?_push_of_some _ e
  have hacc : h₂.get? HI.objs.size = some (lst []) := hsb₂.extBut _ _ (nne (by omega)) (Heap.get?_push_of_some _ (hH2 ▸ Heap.get?_push_size HI rfl))
  have hfresh : ∀ b : Nat, S ≤ b → h₀.get? b = none := fun b hb => by
    cases e : h₀.get? b with
    | none => rfl
    | some o => have := lem _ _ (F.keep _ _ e); omega
  have hgS : ∀ a ∈ gs, ∃ o, s₁.heap.get? a.1 = some o := fun a ha => by
    obtain ⟨vs, ⟨o, ho, _⟩, _⟩ := hG a ha
    exact ⟨o, F.keep _ _ ho⟩
  obtain ⟨oG, hoG, _⟩ := id htup
  have haS := lem _ _ hoG
  have inT : ∀ (x : Str) (v : Value) (h' : Heap) (m' : Str → Option Value), h'.Ns H2.objs.size m' → m' x = some v → (∀ b o, b ≠ H2.objs.size → b ≠ S → b ≠ HI.objs.size → h₂.get? b = some o → h'.get? b = some o) → InT h₀ env.locals m news x v H2.objs.size h' := by
    intro x v h' m' hns' hm' hk'
    have st : ∀ b o, s₁.heap.get? b = some o → h'.get? b = some o := fun b o e => by
      have h1 := lem b o e
      exact hk' b o (nne (by omega)) (nne (by omega)) (nne (by omega)) (old b o (up b o e))
    obtain ⟨oC, heC, hoC⟩ := ns_obj hns'
    refine ⟨oC, m', hoC, hm', F.keeps st, fun p hp => ?_⟩
    rcases List.mem_cons.mp hp with rfl | hp
    · exact ⟨heC, by show H2.objs.size ≠ env.locals; exact nne (by omega), hfresh _ (by omega)⟩
    · exact ⟨st _ _ (N p hp).1, (N p hp).2⟩
  refine codeAny_compStart_list ?a ?b
  case b =>
    refine wpAny_pyIter_tupleiter (hIt.at fun o e => old _ o e) ?_
    exact ?a
  refine outer_run (cenv := compEnvC scope cl H2.objs.size env) q1 q2 hgl hgn hh (lookup_relabel_local hg) (lookup_relabel_local hy) (by simp [compEnvC, relabel, hkind]) hdy hdg (hs2 _)
    (nne (by omega)) (by show HI.objs.size ≠ H2.objs.size; exact nne (by omega)) (by show S ≠ H2.objs.size; exact nne (by omega)) (nne (by omega)) (by show aG ≠ H2.objs.size; exact nne (by omega)) (nne (by omega))
    (fun a ha => by
      obtain ⟨o, ho⟩ := hgS a ha
      have := lem _ _ ho
      exact ⟨nne (by omega), by show a.1 ≠ H2.objs.size; exact nne (by omega), nne (by omega)⟩)
    (hIt.at fun o e => old _ o e) (htup.at fun o e => old _ o (up _ o e)) (fun a ha => by
      obtain ⟨vs, hv, hi⟩ := hG a ha
      exact ⟨vs, hv.at fun o e => old _ o (up _ o (F.keep _ _ e)), hi⟩) hacc hns₂
    (fun a s' m' E' ha hns' hm' hk' hs' => ?_) (fun a k t s' m' E' ha hkm hns' hm' hk' hs' => ?_) fun h' tk m' ys hn' hacc' hys hk' => ?_
  · obtain ⟨h', tk', rfl⟩ := hs'
    exact hq1 a _ h' ha (inT _ _ h' m' hns' hm' hk') tk' E'
  · obtain ⟨h', tk', rfl⟩ := hs'
    exact hq2 a k t _ h' ha hkm (inT _ _ h' m' hns' hm' hk') tk' E'
  · have hst : ∀ b o, s₁.heap.get? b = some o → h'.get? b = some o := fun b o e => by
      have h1 := lem b o e
      exact hk' b o (by show b ≠ H2.objs.size; exact nne (by omega)) (nne (by omega)) (nne (by omega)) (old b o (up b o e))
    show wpAny _ A (assign (.Name z pz) env (.ref HI.objs.size)) _ _ _
    refine wpAny_assign_Name (wpAny_storeName_local hz (F.keeps hst).ns (fun h₃ hn₃ hs₃ => ?_) hp)
    replace hs₃ : Heap.SameBut env.locals h' h₃ := hs₃
    have hL₀ : h₀.get? env.locals = none := Heap.get?_none_of_le F.above
    have F₃ : Fr h₀ env.locals h₃ (fun x => if x = z then some (.ref HI.objs.size) else m x) := ⟨hn₃, fun b o e => hs₃.extBut b o (fun q => by rw [q, hL₀] at e; cases e) (hst b o (F.keep b o e)), F.above⟩
    refine ⟨m', hn'.sameBut hs₃ (by show H2.objs.size ≠ env.locals; exact nne (by omega)), fun h'' hs'' => ?_⟩
    replace hs'' : Heap.SameBut H2.objs.size h₃ h'' := hs''
    refine hQ HI.objs.size ys h'' _ (F₃.change hs'' (by show H2.objs.size ≠ env.locals; exact nne (by omega)) (hfresh _ (by omega))) (fun p hp => ?_) (fun p hp => ?_) hys
    · rcases List.mem_cons.mp hp with rfl | hp
      · exact ⟨hs''.extBut _ _ (by show HI.objs.size ≠ H2.objs.size; exact nne (by omega)) (hs₃.extBut _ _ (by show HI.objs.size ≠ env.locals; exact nne (by omega)) hacc'), by show HI.objs.size ≠ env.locals; exact nne (by omega), hfresh _ (by omega)⟩
      · have h1 := lem _ _ (N p hp).1
        exact ⟨hs''.extBut _ _ (by show p.1 ≠ H2.objs.size; exact nne (by omega)) (hs₃.extBut _ _ (N p hp).2.1 (hst _ _ (N p hp).1)), (N p hp).2⟩
    · have h1 := lem _ _ (N p hp).1
      exact nne (by omega)
end

end
/-! Pure7 -/
section
/- --pure -/
theorem tabAt_mem (ks : List Int) : ∀ (n : Nat) (k d : Int), tabAt ks n k = some d → n ≤ ks.length → k ∈ ks ∧ k = ks.getD d.toNat 0 ∧ 0 ≤ d
  | 0, k, d, h, _ => by simp [tabAt] at h
  | i + 1, k, d, h, hl => by
    unfold tabAt at h
    split at h
    · rename_i e
      cases h
      refine ⟨?_, ?_, by omega⟩
      · rw [e]; exact getD_mem (by omega)
      · rw [e]; rfl
    · exact tabAt_mem ks i k d h (by omega)
theorem tabAt_has (ks : List Int) : ∀ (n : Nat) (k : Int), (∃ i, i < n ∧ ks.getD i 0 = k) → ∃ d, tabAt ks n k = some d
  | 0, k, ⟨i, h, _⟩ => by omega
  | j + 1, k, ⟨i, h, e⟩ => by
    unfold tabAt
    by_cases q : k = ks.getD j 0
    · exact ⟨_, by rw [if_pos q]⟩
    · rw [if_neg q]
      refine tabAt_has ks j k ⟨i, ?_, e⟩
      have : i ≠ j := fun z => q (by rw [← e, z])
      omega
theorem tabAt_none {ks : List Int} {k : Int} (h : k ∉ ks) : tabAt ks ks.length k = none := by
  cases e : tabAt ks ks.length k with
  | none => rfl
  | some d => exact absurd (tabAt_mem ks _ k d e (Nat.le_refl _)).1 h
theorem tabAt_some {ks : List Int} {k : Int} (h : k ∈ ks) : ∃ d, tabAt ks ks.length k = some d := by
  obtain ⟨i, hi, e⟩ := List.mem_iff_getElem.mp h
  exact tabAt_has ks _ k ⟨i, hi, by rw [List.getD_eq_getElem?_getD, List.getElem?_eq_getElem hi, e]; rfl⟩
theorem tabAt_is {ks : List Int} {k : Int} : (tabAt ks ks.length k).isSome = decide (k ∈ ks) := by
  by_cases h : k ∈ ks
  · obtain ⟨d, e⟩ := tabAt_some h
    rw [e]; simp [h]
  · rw [tabAt_none h]; simp [h]
theorem fix_out {G : List Int} {g : Int → Option Int} {k : Int} (h : k ∉ G) : fixOne G g k = g k := by
  unfold fixOne
  split
  · dsimp only; rw [if_neg h]
  · rfl
theorem fix_not1 {G : List Int} {g : Int → Option Int} {k : Int} (h : (G.filter fun c => (g c).isSome).length ≠ 1) : fixOne G g k = g k := by
  unfold fixOne
  rw [if_neg h]
theorem fix_some {G : List Int} {g : Int → Option Int} {k d : Int} (h : g k = some d) : fixOne G g k = some d := by
  by_cases hk : k ∈ G
  · unfold fixOne
    split
    · rename_i h1
      dsimp only
      rw [if_pos hk]
      obtain ⟨a, ha⟩ : ∃ a, G.filter (fun c => (g c).isSome) = [a] := by
        match e : G.filter (fun c => (g c).isSome), h1 with
        | [a], _ => exact ⟨a, rfl⟩
      have hm : k ∈ G.filter fun c => (g c).isSome := List.mem_filter.mpr ⟨hk, by rw [h]; rfl⟩
      rw [ha] at hm ⊢
      rw [List.mem_singleton.mp hm] at h
      exact h
    · exact h
  · rw [fix_out hk, h]
theorem tabF_in_cs {f : Bool} {cs : List Int} {k : Int} (h : k ∈ cs) : tabF f cs k = tabAt cs cs.length k := by
  obtain ⟨d, e⟩ := tabAt_some h
  unfold tabF
  split
  · rw [fix_some (fix_some e), e]
  · rfl
theorem h01 : ∀ k ∈ h1, k ∉ h0 := by decide
theorem h10 : ∀ k ∈ h0, k ∉ h1 := by decide
theorem filt_eq {cs : List Int} (G : List Int) : (G.filter fun c => (tabAt cs cs.length c).isSome) = G.filter fun c => decide (c ∈ cs) := by
  congr 1
  funext c
  exact tabAt_is
theorem filt1_eq {cs : List Int} : (h1.filter fun c => (fixOne h0 (tabAt cs cs.length) c).isSome) = h1.filter fun c => decide (c ∈ cs) := by
  refine List.filter_congr fun c hc => ?_
  rw [fix_out (h01 c hc), tabAt_is]
theorem tabF_none {cs : List Int} {k : Int} (hk : k ∉ cs) (a : k ∈ h0 → (h0.filter fun c => decide (c ∈ cs)).length ≠ 1) (b : k ∈ h1 → (h1.filter fun c => decide (c ∈ cs)).length ≠ 1) : tabF true cs k = none := by
  unfold tabF
  rw [if_pos rfl]
  have e0 : fixOne h0 (tabAt cs cs.length) k = none := by
    by_cases q : k ∈ h0
    · rw [fix_not1 (by rw [filt_eq]; exact a q), tabAt_none hk]
    · rw [fix_out q, tabAt_none hk]
  by_cases q : k ∈ h1
  · rw [fix_not1 (by rw [filt1_eq]; exact b q), e0]
  · rw [fix_out q, e0]
theorem tabF_none0 {cs : List Int} {k : Int} (hk : k ∉ cs) : tabF false cs k = none := by
  unfold tabF
  rw [if_neg (by decide), tabAt_none hk]
/-- what the law asks of a turned text -/
structure OneOk (cs x : List Int) : Prop where
  len : x.length ≤ 62
  ch : ∀ y ∈ x, y ∈ cs ∨ (y ∉ cs ∧ tabF true cs y = none)
  tl : rstripL x = x
theorem dropw_none {p : Int → Bool} : ∀ {l : List Int}, (∀ y, l.head? = some y → p y = false) → l.dropWhile p = l
  | [], _ => rfl
  | y :: r, h => by rw [List.dropWhile_cons, if_neg (by rw [h y rfl]; simp)]
theorem rstrip_last {x : List Int} (h : ∀ y, x.getLast? = some y → white y = false) : rstripL x = x := by
  unfold rstripL
  rw [dropw_none (by intro y e; rw [List.head?_reverse] at e; exact h y e), List.reverse_reverse]
theorem sign_nonwhite {cs : List Int} (ok : ∀ x ∈ cs, 33 ≤ x ∧ x < 256) {y : Int} (h : y ∈ cs) : white y = false := by
  have := ok y h
  unfold white
  simp
  omega
theorem one_signs {cs x : List Int} (ok : ∀ x ∈ cs, 33 ≤ x ∧ x < 256) (hl : x.length ≤ 62) (h : ∀ y ∈ x, y ∈ cs) : OneOk cs x :=
  ⟨hl, fun y hy => .inl (h y hy), rstrip_last fun y e => sign_nonwhite ok (h y (List.mem_of_getLast? e))⟩
theorem one_strange {cs a b : List Int} {n : Int} (ok : ∀ x ∈ cs, 33 ≤ x ∧ x < 256) (hl : (a ++ [n] ++ b).length ≤ 62) (ha : ∀ y ∈ a, y ∈ cs) (hb : ∀ y ∈ b, y ∈ cs) (hb0 : b ≠ []) (hn : n ∉ cs) (hn2 : tabF true cs n = none) : OneOk cs (a ++ [n] ++ b) := by
  refine ⟨hl, fun y hy => ?_, rstrip_last fun y e => ?_⟩
  · rcases List.mem_append.mp hy with hy | hy
    · rcases List.mem_append.mp hy with hy | hy
      · exact .inl (ha y hy)
      · rw [List.mem_singleton.mp hy]; exact .inr ⟨hn, hn2⟩
    · exact .inl (hb y hy)
  · rw [List.getLast?_append] at e
    cases eb : b.getLast? with
    | none => exact absurd (List.getLast?_eq_none_iff.mp eb) hb0
    | some z =>
      rw [eb] at e
      cases e
      exact sign_nonwhite ok (hb _ (List.mem_of_getLast? eb))
theorem kin_none {cs : List Int} {n : Int} (hn : n ∉ cs) (hk : (grpsF (fun G => decide (n ∈ G)) (fun k => decide (k ∈ cs)) [(78, g0), (79, g1)]).length ≠ 1) : tabF true cs n = none := by
  have e : grpsF (fun G => decide (n ∈ G)) (fun k => decide (k ∈ cs)) [((78 : Addr), g0), (79, g1)] = (if n ∈ h0 then h0.filter (fun k => decide (k ∈ cs)) else []) ++ (if n ∈ h1 then h1.filter (fun k => decide (k ∈ cs)) else []) := by
    simp [grpsF, g0, g1, h0, h1]
  rw [e] at hk
  refine tabF_none hn (fun q => ?_) (fun q => ?_)
  · rw [if_pos q, if_neg (h10 n q), List.append_nil] at hk
    exact hk
  · rw [if_neg (h01 n q), if_pos q, List.nil_append] at hk
    exact hk
theorem zero_none {cs : List Int} (ok : ∀ x ∈ cs, 33 ≤ x ∧ x < 256) : (0 : Int) ∉ cs ∧ tabF true cs 0 = none := by
  have h : (0 : Int) ∉ cs := fun q => by have := ok 0 q; omega
  exact ⟨h, tabF_none h (fun q => absurd q (by decide)) (fun q => absurd q (by decide))⟩

end
/-! Pure8 -/
section
/- --pure -/
noncomputable def AllIn (cs l : List Int) : Prop := ∀ y ∈ l, y ∈ cs
theorem all_app {cs a b : List Int} (ha : AllIn cs a) (hb : AllIn cs b) : AllIn cs (a ++ b) := fun y hy => (List.mem_append.mp hy).elim (ha y) (hb y)
theorem all_take {cs a : List Int} {n : Nat} (ha : AllIn cs a) : AllIn cs (a.take n) := fun y hy => ha y (List.mem_of_mem_take hy)
theorem all_drop {cs a : List Int} {n : Nat} (ha : AllIn cs a) : AllIn cs (a.drop n) := fun y hy => ha y (List.mem_of_mem_drop hy)
theorem byte1 {x : Int} (h0 : 0 ≤ x) (h1 : x < 256) : List.map (fun c : UInt8 => ((c.toNat : Nat) : Int)) [x.toNat.toUInt8] = [x] := by
  have := KBa.ints_make (ns := [x]) (fun n hn => by rw [List.mem_singleton.mp hn]; exact ⟨h0, h1⟩)
  exact this
theorem all_sign {cs : List Int} (ok : SignsOk cs) {i : Nat} (hi : i < cs.length) : AllIn cs (List.map (fun c : UInt8 => ((c.toNat : Nat) : Int)) [(cs.getD i 0).toNat.toUInt8]) := by
  have hm := getD_mem hi
  have := ok.mem _ hm
  rw [byte1 (by omega) (by omega)]
  intro y hy
  rw [List.mem_singleton.mp hy]
  exact hm
theorem digs_lenB {b : Int} (hb : 2 ≤ b) : ∀ (k : Nat) (c : Int), c < b ^ k → (digs b c).length ≤ k
  | 0, c, h => by
    rw [digs_zero (by simpa using (show ¬ 0 < c by have : b ^ 0 = 1 := Int.pow_zero b; omega))]
    exact Nat.le_refl _
  | k + 1, c, h => by
    by_cases hc : 0 < c
    · rw [digs_pos hc hb, List.length_cons]
      have h2 : c / b < b ^ k := Int.ediv_lt_of_lt_mul (by omega) (by rw [Int.pow_succ] at h; exact h)
      have := digs_lenB hb k (c / b) h2
      omega
    · rw [digs_zero hc]
      simp
theorem textF_len3 {cs ks : List Int} (hc : 16 ≤ cs.length) (h : ∀ x ∈ ks, 0 ≤ x ∧ x < 256) : (textF cs ks).length ≤ 3 * ks.length := by
  unfold textF
  rw [List.length_append, List.length_replicate, List.length_map, List.length_reverse]
  have h1 := nz_le ks
  have h2 := val_lt (old := 256) (by decide) ks h
  have h3 : (256 : Int) ^ ks.length = 16 ^ (2 * ks.length) := by rw [Int.pow_mul]; rfl
  have h4 : (16 : Int) ^ (2 * ks.length) ≤ (cs.length : Int) ^ (2 * ks.length) := by
    have : (16 : Nat) ^ (2 * ks.length) ≤ cs.length ^ (2 * ks.length) := Nat.pow_le_pow_left hc _
    exact_mod_cast this
  have := digs_lenB (b := cs.length) (by omega) (2 * ks.length) (val 256 ks) (Int.lt_of_lt_of_le (h3 ▸ h2) h4)
  omega
theorem one_text {cs ks : List Int} (ok : SignsOk cs) (hl : ks.length ≤ 20) (h : ∀ x ∈ ks, 0 ≤ x ∧ x < 256) : OneOk cs (textF cs ks) := by
  have := ok.lo
  have := textF_len3 (cs := cs) (by omega) h
  exact one_signs ok.mem (by omega) (textF_mem (by omega))

end
/-! F11 -/
section
local macro_rules | `(tactic| walk_at $s:str) => `(tactic| k_extra $s)
abbrev lamScope : Scope := { kind := ScopeKind.function, names := [(Str.ofString "data", NameKind.local), (Str.ofString "modulus", NameKind.free), (Str.ofString "salt", NameKind.free), (Str.ofString "shift", NameKind.free), (Str.ofString "_law_mixed", NameKind.globalImplicit)], isGenerator := false, isCoroutine := false }
abbrev lamArgs (p : Pos) : Arguments := { posonlyargs := [], args := [{ arg := Str.ofString "data", annotation := none, pos := p }], vararg := none, kwonlyargs := [], kw_defaults := [], kwarg := none, defaults := [] }
abbrev lamBody (p1 p2 p3 p4 p5 p6 : Pos) : PySem.Expr := .Call (.Name (Str.ofString "_law_mixed") p1) [.Name (Str.ofString "data") p2, .Name (Str.ofString "salt") p3, .Name (Str.ofString "modulus") p4, .Name (Str.ofString "shift") p5] [] p6
/-- the lambda stands at f, with what its three cells hold -/
noncomputable def MixAt (h : Heap) (f : Addr) (M S H : Int) : Prop :=
  ∃ qual pm c' ctv cm ca ch tm ta th p0 p1 p2 p3 p4 p5 p6, h.get? f = some (kla_obj (Str.ofString "<lambda>") qual (lamArgs p0) (lamBody p1 p2 p3 p4 p5 p6) lamScope [(Str.ofString "shift", ch), (Str.ofString "salt", ca), (Str.ofString "modulus", cm)] pm c' ctv) ∧
    h.CodeRec (.ref c') qual ∧ h.IsCell cm (some (.int M tm)) ∧ h.IsCell ca (some (.int S ta)) ∧ h.IsCell ch (some (.int H th))
theorem MixAt.keeps {h h' : Heap} {f : Addr} {M S H : Int} (x : MixAt h f M S H) (k : ∀ b o, h.get? b = some o → h'.get? b = some o) : MixAt h' f M S H := by
  obtain ⟨qual, pm, c', ctv, cm, ca, ch, tm, ta, th, p0, p1, p2, p3, p4, p5, p6, ho, hcd, kM, kS, kH⟩ := x
  refine ⟨qual, pm, c', ctv, cm, ca, ch, tm, ta, th, p0, p1, p2, p3, p4, p5, p6, k _ _ ho, ?_, kM.keeps k, kS.keeps k, kH.keeps k⟩
  obtain ⟨c, oc, vs, tq, hc, hoc, r⟩ := hcd
  exact ⟨c, oc, vs, tq, hc, k _ _ hoc, r⟩
theorem fnAt {h : Heap} {f : Addr} {M S H : Int} (x : MixAt h f M S H) : FnAt f h := by
  obtain ⟨qual, pm, c', ctv, cm, ca, ch, tm, ta, th, p0, p1, p2, p3, p4, p5, p6, ho, _⟩ := x
  exact ⟨_, _, _, _, ho⟩
set_option maxHeartbeats 8000000 in
theorem mix_spec (f : Addr) (b : Array UInt8) (ks : List Int) (t : Tok) (salt modulus shift : Int) (hk : KBw.bInts b = ks) (hb : ks.length ≤ 1000) (h1 : 1 ≤ modulus) (h2 : modulus ≤ 65521) (h3 : 0 ≤ salt) (h4 : salt < 65521) (h5 : shift = 0 ∨ shift = 41) :
    Spec f 3 24 [.bytes b t] [] (fun h => MixAt h f modulus salt shift) (PBytes (mixF salt modulus shift ks)) := by
  intro prog w mean mg mb A env outer A₀ base h₀ L m s Q E B F X T hhd hA hf hke hd hu hpre hret
  obtain ⟨hdl, dp, fr, gd, un⟩ := A
  dsimp only at hhd hA hd hu hpre
  subst hhd hA
  refine wpAny_call ?_
  obtain ⟨qual, pm, c', ctv, cm, ca, ch, tm, ta, th, p0, p1, p2, p3, p4, p5, p6, ho, hcd, kM, kS, kH⟩ := hpre
  have B₁ := pushX B F hf hke
  refine kla_callFunE (by dsimp only; omega) ho rfl rfl rfl rfl hcd ?_
  rw [show bindArgs (kla_fn (Str.ofString "<lambda>") qual (lamArgs p0) (lamBody p1 p2 p3 p4 p5 p6) lamScope [(Str.ofString "shift", ch), (Str.ofString "salt", ca), (Str.ofString "modulus", cm)] pm (.ref c') ctv) ⟨[.bytes b t], []⟩ = pure [(Str.ofString "data", .bytes b t)] from rfl]
  refine wpAny_pure (wpAny_newFunctionEnv (show ∀ y ∈ lamScope.names, y.2 ≠ .cell by decide) (by intro y hy; rw [List.mem_singleton.mp hy]; rfl) (fun h₁ hns hsb => ⟨((T.nolimit).keeps F.keep).fresh _ hsb, ?_⟩) rfl)
  have hk₁ : ∀ b o, s.heap.get? b = some o → h₁.get? b = some o := fun b o e => hsb.extBut b o (Nat.ne_of_lt (Heap.lt_size e)) (Heap.get?_push_of_some _ e)
  have B2 : Below { depth := dp, frames := some (env :: outer), guards := gd, units := un } base (env :: outer) s.heap := ⟨rfl, fun b o e => F.keep b o (B.stays b o e), B₁.frames⟩
  have X2 : (Mine.hd.heap_39 w.params).In s.heap := X.keeps F.keep
  have T2 : TT mean mg mb s.heap := T.keeps F.keep
  have N2 : News s.heap s.heap.objs.size h₁ [] := News.nil
  have F2 : Fr s.heap s.heap.objs.size h₁ (fun y => [(Str.ofString "data", Value.bytes b t)].reverse.lookup y) := ⟨hns, hk₁, Nat.le_refl _⟩
  have iM := kM.keeps hk₁
  have iS := kS.keeps hk₁
  have iH := kH.keeps hk₁
  show codeAny _ _ (.expr _ (envX qual lamScope s.heap.objs.size f (.ref c') [(Str.ofString "shift", ch), (Str.ofString "salt", ca), (Str.ofString "modulus", cm)])) _ _
  refine kla_codeExpr ?_
  clear hns hsb
  k_with "eval Name" => (k_dflt (refine wpAny_Name (wpAny_loadName_free rfl (by exact rfl) (by exact rfl) (by assumption) ?_) (by exact rfl)))
  k_with "call ref" => (refine use_bytes (mixed_spec b ks t ta tm th salt modulus shift hk hb h1 h2 h3 h4 h5) (by k_asm) (by k_asm) (by k_asm) (by k_asm) (by k_asm) rfl rfl rfl rfl (by ktr_room) (by ktr_units) (by first | trivial | assumption | is_list) ?_; intro bU tU hU tkU kU FU NU)
  k_steps
  exact hret _ _ _ (Fr.keep FU) ⟨_, _, rfl, kU⟩
theorem mixAt_of {h₀ h : Heap} {L f c' cm ca ch : Addr} {news : List (Addr × Obj)} {qual : Str} {pm ctv : Value} {oc oM oS oH : Obj} {vs : Array Value} {tq tm ta th : Tok} {M S H : Int} {p0 p1 p2 p3 p4 p5 p6 : Pos} (N : News h₀ L h news)
    (hf : (f, kla_obj (Str.ofString "<lambda>") qual (lamArgs p0) (lamBody p1 p2 p3 p4 p5 p6) lamScope [(Str.ofString "shift", ch), (Str.ofString "salt", ca), (Str.ofString "modulus", cm)] pm c' ctv) ∈ news)
    (hc : (c', oc) ∈ news) (hd : oc.data = .fields vs) (hv : vs[1]? = some (.str qual tq)) (hM : (cm, oM) ∈ news) (eM : oM.data = .cell (some (.int M tm))) (hS : (ca, oS) ∈ news) (eS : oS.data = .cell (some (.int S ta))) (hH : (ch, oH) ∈ news) (eH : oH.data = .cell (some (.int H th))) : MixAt h f M S H :=
  ⟨qual, pm, c', ctv, cm, ca, ch, tm, ta, th, p0, p1, p2, p3, p4, p5, p6, N.get hf, codeRec_news N hc hd hv, ⟨_, N.get hM, eM⟩, ⟨_, N.get hS, eS⟩, ⟨_, N.get hH, eH⟩⟩

end
/-! F12 -/
section
local macro_rules | `(tactic| walk_at $s:str) => `(tactic| k_extra $s)
/-- the sum laid behind: four octets -/
noncomputable def sumF (salt modulus shift : Int) (ks : List Int) : List Int := (mixF salt modulus shift (mixF salt modulus shift ks)).take 4
set_option maxHeartbeats 8000000 in
theorem enccheck_spec (f : Addr) (b c : Array UInt8) (ks cs : List Int) (t t1 : Tok) (salt modulus shift : Int) (hk : KBw.bInts b = ks) (hc : KBw.bInts c = cs) (hb : ks.length ≤ 12) (hb2 : cs.length ≤ 60) (hb3 : 2 ≤ cs.length) (h1 : 1 ≤ modulus) (h2 : modulus ≤ 65521) (h3 : 0 ≤ salt) (h4 : salt < 65521) (h5 : shift = 0 ∨ shift = 41) :
    Spec 68 6 48 [.bytes b t, .bytes c t1] [("sha256", .ref f)] (fun h => MixAt h f modulus salt shift) (PBytes (textF cs (ks ++ sumF salt modulus shift ks))) := by
  intro prog w mean mg mb A env outer A₀ base h₀ L m s Q E B F X T hhd hA hf hke hd hu hpre hret
  obtain ⟨hdl, dp, fr, gd, un⟩ := A
  dsimp only at hhd hA hd hu hpre
  subst hhd hA
  refine wpAny_call ?_
  have hm1 : (mixF salt modulus shift ks).length = 6 := rfl
  have hm2 : (mixF salt modulus shift (mixF salt modulus shift ks)).length = 6 := rfl
  have hm4 : clipAt (mixF salt modulus shift (mixF salt modulus shift ks)).length 4 = 4 := rfl
  k_dflt (refine' enterP ?k1 ?k2 ?k3 ?k5 ?kA ?kF ?kK ?k6 ?k7 ?k8 ?k9 ?kB ?_ ?c2 ?c3 ?c4 ?c5; (case kA => exact rfl); (case kF => assumption); (case kK => assumption); (case k1 => k_asm); (case k2 => k_asm); (case k3 => k_asm);  (case k5 => k_asm); (case k6 => k_is); (case k7 => k_is); (case k8 => (try dsimp only); omega); (case k9 => first | exact BindsTo.of_eq rfl | exact binds_K (by k_in) rfl (by k_is) rfl rfl rfl | (refine' kp_binds ?kx ?ke; (case kx => k_in); (case ke => exact fun _ => rfl))); (case c5 => decide); (case kB => exact locs rfl); (case c2 => exact rfl); (case c3 => exact rfl); (case c4 => exact rfl); k_whole; intro L' h' F' N' B' X' T'; (try dsimp only); (try k_lift B'); (try k_fold))
  (k_with_none; (k_with "pyIter ref" => refine Stop.out ?_); (k_with "pyIter bytes" => refine Stop.out ?_); (k_with "exec While" => refine Stop.out ?_); (k_with "exec While Compare" => refine Stop.out ?_); (k_with "exec While BoolOp" => refine Stop.out ?_); (k_with "exec While Compare cons nil" => refine Stop.out ?_); (k_with "exec While Name" => refine Stop.out ?_); (k_with "InvEndN" => refine Stop.out ?_); (k_with "KswEnd" => refine Stop.out ?_))
  k_with "callWith ref" => (k_dflt (rename Fr s.heap _ _ _ => FM; refine callWith_F (q := f) (fnAt (hpre.keeps FM.keep)) ?_))
  k_with "FnAt" => (k_dflt (rename Fr s.heap _ _ _ => FM; exact fnAt (hpre.keeps FM.keep)))
  k_with "call ref" => first
    | (refine use_bytes (scrub_spec _ _ _ hk) (by k_asm) (by k_asm) (by k_asm) (by k_asm) (by k_asm) rfl rfl rfl rfl (by ktr_room) (by ktr_units) (by first | trivial | assumption | is_list) ?_; intro bU tU hU tkU kU FU NU)
    | (rename Fr s.heap _ _ _ => FM; refine use_bytes (mix_spec f _ _ _ salt modulus shift (by assumption) (by first | omega | (rw [mixF_len]; decide)) h1 h2 h3 h4 h5) (by k_asm) (by k_asm) (by k_asm) (by k_asm) (by k_asm) rfl rfl rfl rfl (by ktr_room) (by ktr_units) (hpre.keeps FM.keep) ?_; intro bU tU hU tkU kU FU NU)
    | (rename KBw.bInts (_ ++ KBy.picked _ _ _) = _ => kX9; rw [hm4] at kX9; (refine use_bytes (encode_spec _ _ _ _ _ _ kX9 hc (by rw [List.length_append]; show _ + (sumF salt modulus shift ks).length ≤ 16; rw [show (sumF salt modulus shift ks).length = 4 from rfl]; omega) hb2 hb3) (by k_asm) (by k_asm) (by k_asm) (by k_asm) (by k_asm) rfl rfl rfl rfl (by ktr_room) (by ktr_units) (by first | trivial | assumption | is_list) ?_; intro bU tU hU tkU kU FU NU))
  k_steps
  (repeat (first | (k_unfold; try dsimp only) | dsimp only))
  refine hret _ _ _ (Fr.keep (by assumption)) ⟨_, _, rfl, by assumption⟩

end
/-! F12b -/
section
local macro_rules | `(tactic| walk_at $s:str) => `(tactic| k_extra $s)
set_option maxHeartbeats 8000000 in
theorem enccheck_spec0 (f : Addr) (b : Array UInt8) (ks : List Int) (t : Tok) (salt modulus shift : Int) (hk : KBw.bInts b = ks) (hb : ks.length ≤ 12) (h1 : 1 ≤ modulus) (h2 : modulus ≤ 65521) (h3 : 0 ≤ salt) (h4 : salt < 65521) (h5 : shift = 0 ∨ shift = 41) :
    Spec 68 6 48 [.bytes b t] [("sha256", .ref f)] (fun h => MixAt h f modulus salt shift) (PBytes (textF bitcoinL (ks ++ sumF salt modulus shift ks))) := by
  intro prog w mean mg mb A env outer A₀ base h₀ L m s Q E B F X T hhd hA hf hke hd hu hpre hret
  obtain ⟨hdl, dp, fr, gd, un⟩ := A
  dsimp only at hhd hA hd hu hpre
  subst hhd hA
  refine wpAny_call ?_
  have hm1 : (mixF salt modulus shift ks).length = 6 := rfl
  have hm2 : (mixF salt modulus shift (mixF salt modulus shift ks)).length = 6 := rfl
  have hm4 : clipAt (mixF salt modulus shift (mixF salt modulus shift ks)).length 4 = 4 := rfl
  k_dflt (refine' enterP ?k1 ?k2 ?k3 ?k5 ?kA ?kF ?kK ?k6 ?k7 ?k8 ?k9 ?kB ?_ ?c2 ?c3 ?c4 ?c5; (case kA => exact rfl); (case kF => assumption); (case kK => assumption); (case k1 => k_asm); (case k2 => k_asm); (case k3 => k_asm);  (case k5 => k_asm); (case k6 => k_is); (case k7 => k_is); (case k8 => (try dsimp only); omega); (case k9 => first | exact BindsTo.of_eq rfl | exact binds_K (by k_in) rfl (by k_is) rfl rfl rfl | (refine' kp_binds ?kx ?ke; (case kx => k_in); (case ke => exact fun _ => rfl))); (case c5 => decide); (case kB => exact locs rfl); (case c2 => exact rfl); (case c3 => exact rfl); (case c4 => exact rfl); k_whole; intro L' h' F' N' B' X' T'; (try dsimp only); (try k_lift B'); (try k_fold))
  (k_with_none; (k_with "pyIter ref" => refine Stop.out ?_); (k_with "pyIter bytes" => refine Stop.out ?_); (k_with "exec While" => refine Stop.out ?_); (k_with "exec While Compare" => refine Stop.out ?_); (k_with "exec While BoolOp" => refine Stop.out ?_); (k_with "exec While Compare cons nil" => refine Stop.out ?_); (k_with "exec While Name" => refine Stop.out ?_); (k_with "InvEndN" => refine Stop.out ?_); (k_with "KswEnd" => refine Stop.out ?_))
  k_with "callWith ref" => (k_dflt (rename Fr s.heap _ _ _ => FM; refine callWith_F (q := f) (fnAt (hpre.keeps FM.keep)) ?_))
  k_with "FnAt" => (k_dflt (rename Fr s.heap _ _ _ => FM; exact fnAt (hpre.keeps FM.keep)))
  k_with "call ref" => first
    | (refine use_bytes (scrub_spec _ _ _ hk) (by k_asm) (by k_asm) (by k_asm) (by k_asm) (by k_asm) rfl rfl rfl rfl (by ktr_room) (by ktr_units) (by first | trivial | assumption | is_list) ?_; intro bU tU hU tkU kU FU NU)
    | (rename Fr s.heap _ _ _ => FM; refine use_bytes (mix_spec f _ _ _ salt modulus shift (by assumption) (by first | omega | (rw [mixF_len]; decide)) h1 h2 h3 h4 h5) (by k_asm) (by k_asm) (by k_asm) (by k_asm) (by k_asm) rfl rfl rfl rfl (by ktr_room) (by ktr_units) (hpre.keeps FM.keep) ?_; intro bU tU hU tkU kU FU NU)
    | (rename KBw.bInts (_ ++ KBy.picked _ _ _) = _ => kX9; rw [hm4] at kX9; (refine use_bytes (encode_spec _ _ _ bitcoinL _ _ kX9 (by exact rfl) (by rw [List.length_append]; show _ + (sumF salt modulus shift ks).length ≤ 16; rw [show (sumF salt modulus shift ks).length = 4 from rfl]; omega) (by decide) (by decide)) (by k_asm) (by k_asm) (by k_asm) (by k_asm) (by k_asm) rfl rfl rfl rfl (by ktr_room) (by ktr_units) (by first | trivial | assumption | is_list) ?_; intro bU tU hU tkU kU FU NU))
  k_steps
  (repeat (first | (k_unfold; try dsimp only) | dsimp only))
  refine hret _ _ _ (Fr.keep (by assumption)) ⟨_, _, rfl, by assumption⟩

end
/-! F13 -/
section
local macro_rules | `(tactic| walk_at $s:str) => `(tactic| k_extra $s)
theorem bInts_inj {a b : Array UInt8} (h : KBw.bInts a = KBw.bInts b) : a = b := by
  unfold KBw.bInts at h
  have h2 : a.toList = b.toList := List.map_inj_right (f := fun c : UInt8 => ((c.toNat : Nat) : Int)) (fun x y e => UInt8.toNat_inj.mp (by exact_mod_cast e)) |>.mp h
  exact Array.toList_inj.mp h2
/-- like SpecR, with what must stand first -/
noncomputable def SpecM (f : Addr) (n u : Nat) (vs : List Value) (kw : List (Str × Value)) (Pre : Heap → Prop) (Post : Option (Heap → Heap → Value → Prop)) : Prop :=
  ∀ (prog : Program) (w : World) (mean : ExcName → Option Value) (mg mb : Str → Option Value) (A : Around) (env : Env) (outer : List Env) (A₀ : Around) (base h₀ : Heap) (L : Addr) (m : Str → Option Value) (s : Shared) (Q E : Value → Shared → Prop),
    Below A₀ base outer h₀ → Fr h₀ L s.heap m → (hd.heap_39 w.params).In h₀ → TT mean mg mb h₀ → A.handled = none → A.frames = some (env :: outer) → env.frame = some L → env.scope.kind = .function → A.depth + n < recursionLimit → A.units + u < cLine →
    DeepOK w mean mg mb base outer h₀ → Pre s.heap →
    (∀ P, Post = some P → ∀ v h' tk', s.heap.StaysIn h' → P s.heap h' v → Q v { s with heap := h', toks := tk' }) →
    (Post = none → ∀ e h' tk', RaisedSN base s.heap (env :: outer) e (.type "ValueError") [] h' → s.heap.UpToSlots h' → E (.ref e) { s with heap := h', toks := tk' }) →
    wpAny (model prog w) A (call (.ref f) vs kw) Q E s
noncomputable def dcheckF (salt modulus shift : Int) (f : Bool) (cs ks : List Int) : Option (List Int) :=
  (decodeF f cs ks).bind fun x => if x.drop (x.length - 4) = sumF salt modulus shift (x.take (x.length - 4)) then some (x.take (x.length - 4)) else none
theorem clip4 (n : Nat) : clipAt n (-4) = n - 4 := by
  unfold clipAt
  omega
theorem decodeF_len {f : Bool} {cs ks x : List Int} (hb : ks.length ≤ 64) (hn : cs.length ≤ 60) (h : decodeF f cs ks = some x) : x.length ≤ 1000 := by
  unfold decodeF at h
  cases e : decF (tabF f cs) cs.length (rstripL (stripC (cs.getD 0 0) (rstripL ks))) with
  | none => rw [e] at h; cases h
  | some y =>
    rw [e] at h
    cases h
    have h1 := rstripL_len ks
    have h2 := stripC_len (cs.getD 0 0) (rstripL ks)
    have h3 := rstripL_len (stripC (cs.getD 0 0) (rstripL ks))
    have h4 := decF_bound hn (by omega) e
    have h5 := digs_len (b := 256) (by decide) 384 y h4.2
    rw [List.length_append, List.length_replicate, List.length_reverse]
    omega
theorem ne_of_bne {a b : Array UInt8} (h : (a.toList != b.toList) = true) : KBw.bInts a ≠ KBw.bInts b := by
  intro e
  have := bInts_inj e
  rw [this] at h
  simp at h
theorem eq_of_bne {a b : Array UInt8} (h : (a.toList != b.toList) = false) : KBw.bInts a = KBw.bInts b := by
  have : a.toList = b.toList := by simpa using h
  unfold KBw.bInts
  rw [this]
theorem cut_eq (yD : List Int) : List.take (yD.length - clipAt yD.length (-4)) (List.drop (clipAt yD.length (-4)) yD) = yD.drop (yD.length - 4) := by
  rw [clip4, List.take_of_length_le]
  rw [List.length_drop]
  exact Nat.le_refl _
theorem dcheck_none {salt modulus shift : Int} {f : Bool} {cs ks yD : List Int} {a b : Array UInt8} (e : decodeF f cs ks = some yD) (hne : KBw.bInts a ≠ KBw.bInts b) (ka : KBw.bInts a = List.take (yD.length - clipAt yD.length (-4)) (List.drop (clipAt yD.length (-4)) yD))
    (kb : KBw.bInts b = List.take (clipAt (mixF salt modulus shift (mixF salt modulus shift (List.take (clipAt yD.length (-4)) yD))).length 4) (mixF salt modulus shift (mixF salt modulus shift (List.take (clipAt yD.length (-4)) yD)))) :
    (dcheckF salt modulus shift f cs ks).map (fun x => PBytes x) = none := by
  rw [ka, kb, cut_eq, clip4] at hne
  unfold dcheckF
  have h9 : ¬ yD.drop (yD.length - 4) = sumF salt modulus shift (yD.take (yD.length - 4)) := hne
  rw [e, Option.bind_some, if_neg h9]
  rfl
theorem dcheck_some {salt modulus shift : Int} {f : Bool} {cs ks yD : List Int} {a b : Array UInt8} (e : decodeF f cs ks = some yD) (hne : KBw.bInts a = KBw.bInts b) (ka : KBw.bInts a = List.take (yD.length - clipAt yD.length (-4)) (List.drop (clipAt yD.length (-4)) yD))
    (kb : KBw.bInts b = List.take (clipAt (mixF salt modulus shift (mixF salt modulus shift (List.take (clipAt yD.length (-4)) yD))).length 4) (mixF salt modulus shift (mixF salt modulus shift (List.take (clipAt yD.length (-4)) yD)))) :
    (dcheckF salt modulus shift f cs ks).map (fun x => PBytes x) = some (PBytes (yD.take (yD.length - 4))) := by
  rw [ka, kb, cut_eq, clip4] at hne
  unfold dcheckF
  have h9 : yD.drop (yD.length - 4) = sumF salt modulus shift (yD.take (yD.length - 4)) := hne
  rw [e, Option.bind_some, if_pos h9]
  rfl
set_option maxHeartbeats 8000000 in
theorem dcheck_spec (g : Addr) (b c : Array UInt8) (ks cs : List Int) (t t1 : Tok) (f : Bool) (salt modulus shift : Int) (hk : KBw.bInts b = ks) (hc : KBw.bInts c = cs) (hb : ks.length ≤ 64) (hb2 : cs.length ≤ 60) (hb3 : 2 ≤ cs.length) (hsp : 32 ∉ cs) (h1 : 1 ≤ modulus) (h2 : modulus ≤ 65521) (h3 : 0 ≤ salt) (h4 : salt < 65521) (h5 : shift = 0 ∨ shift = 41) :
    SpecM 77 10 60 [.bytes b t, .bytes c t1] [("autofix", .bool f), ("sha256", .ref g)] (fun h => MixAt h g modulus salt shift) ((dcheckF salt modulus shift f cs ks).map fun x => PBytes x) := by
  intro prog w mean mg mb A env outer A₀ base h₀ L m s Q E B F X T hhd hA hf hke hd hu DK hpre hret hraise
  obtain ⟨hdl, dp, fr, gd, un⟩ := A
  dsimp only at hhd hA hd hu
  subst hhd hA
  refine wpAny_call ?_
  have DK2 : DeepOK w mean mg mb base (env :: outer) s.heap := ⟨DK.inb, DK.top, kts_cons DK.dicts F hf⟩
  k_dflt (refine' enterP ?k1 ?k2 ?k3 ?k5 ?kA ?kF ?kK ?k6 ?k7 ?k8 ?k9 ?kB ?_ ?c2 ?c3 ?c4 ?c5; (case kA => exact rfl); (case kF => assumption); (case kK => assumption); (case k1 => k_asm); (case k2 => k_asm); (case k3 => k_asm);  (case k5 => k_asm); (case k6 => k_is); (case k7 => k_is); (case k8 => (try dsimp only); omega); (case k9 => first | exact BindsTo.of_eq rfl | exact binds_K (by k_in) rfl (by k_is) rfl rfl rfl | (refine' kp_binds ?kx ?ke; (case kx => k_in); (case ke => exact fun _ => rfl))); (case c5 => decide); (case kB => exact locs rfl); (case c2 => exact rfl); (case c3 => exact rfl); (case c4 => exact rfl); k_whole; intro L' h' F' N' B' X' T'; (try dsimp only); (try k_lift B'); (try k_fold))
  (k_with_none; (k_with "pyIter ref" => refine Stop.out ?_); (k_with "pyIter bytes" => refine Stop.out ?_); (k_with "exec While" => refine Stop.out ?_); (k_with "exec While Compare" => refine Stop.out ?_); (k_with "exec While BoolOp" => refine Stop.out ?_); (k_with "exec While Compare cons nil" => refine Stop.out ?_); (k_with "exec While Name" => refine Stop.out ?_); (k_with "InvEndN" => refine Stop.out ?_); (k_with "KswEnd" => refine Stop.out ?_))
  k_with "callWith ref" => (k_dflt (rename Fr s.heap _ _ _ => FM; refine callWith_F (q := g) (fnAt (hpre.keeps FM.keep)) ?_))
  k_with "FnAt" => (k_dflt (rename Fr s.heap _ _ _ => FM; exact fnAt (hpre.keeps FM.keep)))
  k_with "call ref" => first
    | (refine use_bytesR (decode_spec _ _ _ _ _ _ f hk hc hb hb2 hb3 hsp) (by k_asm) (by k_asm) (by k_asm) (by k_asm) (by k_asm) rfl rfl rfl rfl (by ktr_room) (by ktr_units) DK2 ?_ ?_; intro yD bD tD hD tkD eD kD FD ND; have lD := decodeF_len hb hb2 eD; have hm2 : (mixF salt modulus shift (mixF salt modulus shift (List.take (clipAt yD.length (-4)) yD))).length = 6 := rfl; have hm3 : clipAt (mixF salt modulus shift (mixF salt modulus shift (List.take (clipAt yD.length (-4)) yD))).length 4 = 4 := rfl; rotate_left; intro eR xR hR tkR RR uR; rotate_left)
    | (rename Fr s.heap _ _ _ => FM; refine use_bytes (mix_spec g _ _ _ salt modulus shift (by assumption) (by first | omega | (rw [List.length_take]; omega) | (rw [mixF_len]; decide)) h1 h2 h3 h4 h5) (by k_asm) (by k_asm) (by k_asm) (by k_asm) (by k_asm) rfl rfl rfl rfl (by ktr_room) (by ktr_units) (hpre.keeps FM.keep) ?_; intro bU tU hU tkU kU FU NU)
  k_with "leaving ref" => (k_dflt (rename Heap.NewExc _ _ _ _ => nX; rename Fr s.heap _ _ _ => FL; refine leave_newS (cls := "ValueError") B' nX FL News.nil ?_; intro hR2 R2 _ u2))
  (k_steps; all_goals (repeat (first | (k_unfold; try dsimp only) | dsimp only)))
  · rename ((_ != _) = true) => hne
    refine hraise ?_ _ _ _ R2 u2
    rename KBw.bInts (KBy.picked _ none (some 4)) = _ => k4
    rename KBw.bInts (KBy.picked _ (some (-4)) none) = _ => k5
    exact dcheck_none eD (ne_of_bne hne) k5 k4
  · rename ((_ != _) = false) => heq
    rename KBw.bInts (KBy.picked _ none (some 4)) = _ => k4
    rename KBw.bInts (KBy.picked _ (some (-4)) none) = _ => k5
    rename KBw.bInts (KBy.picked _ none (some (-4))) = _ => k6
    exact hret (PBytes (yD.take (yD.length - 4))) (dcheck_some eD (eq_of_bne heq) k5 k4) _ _ _ (Fr.keep (by assumption)) ⟨_, _, rfl, k6.trans (by rw [clip4])⟩
  · (repeat (first | (k_unfold; try dsimp only) | dsimp only))
    (rename Fr s.heap _ _ _ => FF)
    refine leave_onSN B' FF RR uR fun hR2 R2 _ u2 => ?_
    (repeat (first | (k_unfold; try dsimp only) | dsimp only))
    exact hraise (by unfold dcheckF; rw [eR]; rfl) _ _ _ R2 u2

end
/-! F13b -/
section
local macro_rules | `(tactic| walk_at $s:str) => `(tactic| k_extra $s)
set_option maxHeartbeats 8000000 in
theorem dcheck_spec2 (g : Addr) (b c : Array UInt8) (ks cs : List Int) (t t1 : Tok) (salt modulus shift : Int) (hk : KBw.bInts b = ks) (hc : KBw.bInts c = cs) (hb : ks.length ≤ 64) (hb2 : cs.length ≤ 60) (hb3 : 2 ≤ cs.length) (hsp : 32 ∉ cs) (h1 : 1 ≤ modulus) (h2 : modulus ≤ 65521) (h3 : 0 ≤ salt) (h4 : salt < 65521) (h5 : shift = 0 ∨ shift = 41) :
    SpecM 77 10 60 [.bytes b t, .bytes c t1] [("sha256", .ref g)] (fun h => MixAt h g modulus salt shift) ((dcheckF salt modulus shift false cs ks).map fun x => PBytes x) := by
  intro prog w mean mg mb A env outer A₀ base h₀ L m s Q E B F X T hhd hA hf hke hd hu DK hpre hret hraise
  obtain ⟨hdl, dp, fr, gd, un⟩ := A
  dsimp only at hhd hA hd hu
  subst hhd hA
  refine wpAny_call ?_
  have DK2 : DeepOK w mean mg mb base (env :: outer) s.heap := ⟨DK.inb, DK.top, kts_cons DK.dicts F hf⟩
  k_dflt (refine' enterP ?k1 ?k2 ?k3 ?k5 ?kA ?kF ?kK ?k6 ?k7 ?k8 ?k9 ?kB ?_ ?c2 ?c3 ?c4 ?c5; (case kA => exact rfl); (case kF => assumption); (case kK => assumption); (case k1 => k_asm); (case k2 => k_asm); (case k3 => k_asm);  (case k5 => k_asm); (case k6 => k_is); (case k7 => k_is); (case k8 => (try dsimp only); omega); (case k9 => first | exact BindsTo.of_eq rfl | exact binds_K (by k_in) rfl (by k_is) rfl rfl rfl | (refine' kp_binds ?kx ?ke; (case kx => k_in); (case ke => exact fun _ => rfl))); (case c5 => decide); (case kB => exact locs rfl); (case c2 => exact rfl); (case c3 => exact rfl); (case c4 => exact rfl); k_whole; intro L' h' F' N' B' X' T'; (try dsimp only); (try k_lift B'); (try k_fold))
  (k_with_none; (k_with "pyIter ref" => refine Stop.out ?_); (k_with "pyIter bytes" => refine Stop.out ?_); (k_with "exec While" => refine Stop.out ?_); (k_with "exec While Compare" => refine Stop.out ?_); (k_with "exec While BoolOp" => refine Stop.out ?_); (k_with "exec While Compare cons nil" => refine Stop.out ?_); (k_with "exec While Name" => refine Stop.out ?_); (k_with "InvEndN" => refine Stop.out ?_); (k_with "KswEnd" => refine Stop.out ?_))
  k_with "callWith ref" => (k_dflt (rename Fr s.heap _ _ _ => FM; refine callWith_F (q := g) (fnAt (hpre.keeps FM.keep)) ?_))
  k_with "FnAt" => (k_dflt (rename Fr s.heap _ _ _ => FM; exact fnAt (hpre.keeps FM.keep)))
  k_with "call ref" => first
    | (refine use_bytesR (decode_spec _ _ _ _ _ _ false hk hc hb hb2 hb3 hsp) (by k_asm) (by k_asm) (by k_asm) (by k_asm) (by k_asm) rfl rfl rfl rfl (by ktr_room) (by ktr_units) DK2 ?_ ?_; intro yD bD tD hD tkD eD kD FD ND; have lD := decodeF_len hb hb2 eD; have hm2 : (mixF salt modulus shift (mixF salt modulus shift (List.take (clipAt yD.length (-4)) yD))).length = 6 := rfl; have hm3 : clipAt (mixF salt modulus shift (mixF salt modulus shift (List.take (clipAt yD.length (-4)) yD))).length 4 = 4 := rfl; rotate_left; intro eR xR hR tkR RR uR; rotate_left)
    | (rename Fr s.heap _ _ _ => FM; refine use_bytes (mix_spec g _ _ _ salt modulus shift (by assumption) (by first | omega | (rw [List.length_take]; omega) | (rw [mixF_len]; decide)) h1 h2 h3 h4 h5) (by k_asm) (by k_asm) (by k_asm) (by k_asm) (by k_asm) rfl rfl rfl rfl (by ktr_room) (by ktr_units) (hpre.keeps FM.keep) ?_; intro bU tU hU tkU kU FU NU)
  k_with "leaving ref" => (k_dflt (rename Heap.NewExc _ _ _ _ => nX; rename Fr s.heap _ _ _ => FL; refine leave_newS (cls := "ValueError") B' nX FL News.nil ?_; intro hR2 R2 _ u2))
  (k_steps; all_goals (repeat (first | (k_unfold; try dsimp only) | dsimp only)))
  · rename ((_ != _) = true) => hne
    refine hraise ?_ _ _ _ R2 u2
    rename KBw.bInts (KBy.picked _ none (some 4)) = _ => k4
    rename KBw.bInts (KBy.picked _ (some (-4)) none) = _ => k5
    exact dcheck_none eD (ne_of_bne hne) k5 k4
  · rename ((_ != _) = false) => heq
    rename KBw.bInts (KBy.picked _ none (some 4)) = _ => k4
    rename KBw.bInts (KBy.picked _ (some (-4)) none) = _ => k5
    rename KBw.bInts (KBy.picked _ none (some (-4))) = _ => k6
    exact hret (PBytes (yD.take (yD.length - 4))) (dcheck_some eD (eq_of_bne heq) k5 k4) _ _ _ (Fr.keep (by assumption)) ⟨_, _, rfl, k6.trans (by rw [clip4])⟩
  · (repeat (first | (k_unfold; try dsimp only) | dsimp only))
    (rename Fr s.heap _ _ _ => FF)
    refine leave_onSN B' FF RR uR fun hR2 R2 _ u2 => ?_
    (repeat (first | (k_unfold; try dsimp only) | dsimp only))
    exact hraise (by unfold dcheckF; rw [eR]; rfl) _ _ _ R2 u2
set_option maxHeartbeats 8000000 in
theorem dcheck_spec3 (g : Addr) (b : Array UInt8) (ks : List Int) (t : Tok) (f : Bool) (salt modulus shift : Int) (hk : KBw.bInts b = ks) (hb : ks.length ≤ 64) (h1 : 1 ≤ modulus) (h2 : modulus ≤ 65521) (h3 : 0 ≤ salt) (h4 : salt < 65521) (h5 : shift = 0 ∨ shift = 41) :
    SpecM 77 10 60 [.bytes b t] [("autofix", .bool f), ("sha256", .ref g)] (fun h => MixAt h g modulus salt shift) ((dcheckF salt modulus shift f bitcoinL ks).map fun x => PBytes x) := by
  intro prog w mean mg mb A env outer A₀ base h₀ L m s Q E B F X T hhd hA hf hke hd hu DK hpre hret hraise
  obtain ⟨hdl, dp, fr, gd, un⟩ := A
  dsimp only at hhd hA hd hu
  subst hhd hA
  refine wpAny_call ?_
  have DK2 : DeepOK w mean mg mb base (env :: outer) s.heap := ⟨DK.inb, DK.top, kts_cons DK.dicts F hf⟩
  k_dflt (refine' enterP ?k1 ?k2 ?k3 ?k5 ?kA ?kF ?kK ?k6 ?k7 ?k8 ?k9 ?kB ?_ ?c2 ?c3 ?c4 ?c5; (case kA => exact rfl); (case kF => assumption); (case kK => assumption); (case k1 => k_asm); (case k2 => k_asm); (case k3 => k_asm);  (case k5 => k_asm); (case k6 => k_is); (case k7 => k_is); (case k8 => (try dsimp only); omega); (case k9 => first | exact BindsTo.of_eq rfl | exact binds_K (by k_in) rfl (by k_is) rfl rfl rfl | (refine' kp_binds ?kx ?ke; (case kx => k_in); (case ke => exact fun _ => rfl))); (case c5 => decide); (case kB => exact locs rfl); (case c2 => exact rfl); (case c3 => exact rfl); (case c4 => exact rfl); k_whole; intro L' h' F' N' B' X' T'; (try dsimp only); (try k_lift B'); (try k_fold))
  (k_with_none; (k_with "pyIter ref" => refine Stop.out ?_); (k_with "pyIter bytes" => refine Stop.out ?_); (k_with "exec While" => refine Stop.out ?_); (k_with "exec While Compare" => refine Stop.out ?_); (k_with "exec While BoolOp" => refine Stop.out ?_); (k_with "exec While Compare cons nil" => refine Stop.out ?_); (k_with "exec While Name" => refine Stop.out ?_); (k_with "InvEndN" => refine Stop.out ?_); (k_with "KswEnd" => refine Stop.out ?_))
  k_with "callWith ref" => (k_dflt (rename Fr s.heap _ _ _ => FM; refine callWith_F (q := g) (fnAt (hpre.keeps FM.keep)) ?_))
  k_with "FnAt" => (k_dflt (rename Fr s.heap _ _ _ => FM; exact fnAt (hpre.keeps FM.keep)))
  k_with "call ref" => first
    | (refine use_bytesR (decode_spec _ _ _ bitcoinL _ _ f hk (by exact rfl) hb (by decide) (by decide) (by decide)) (by k_asm) (by k_asm) (by k_asm) (by k_asm) (by k_asm) rfl rfl rfl rfl (by ktr_room) (by ktr_units) DK2 ?_ ?_; intro yD bD tD hD tkD eD kD FD ND; have lD := decodeF_len hb (by decide) eD; have hm2 : (mixF salt modulus shift (mixF salt modulus shift (List.take (clipAt yD.length (-4)) yD))).length = 6 := rfl; have hm3 : clipAt (mixF salt modulus shift (mixF salt modulus shift (List.take (clipAt yD.length (-4)) yD))).length 4 = 4 := rfl; rotate_left; intro eR xR hR tkR RR uR; rotate_left)
    | (rename Fr s.heap _ _ _ => FM; refine use_bytes (mix_spec g _ _ _ salt modulus shift (by assumption) (by first | omega | (rw [List.length_take]; omega) | (rw [mixF_len]; decide)) h1 h2 h3 h4 h5) (by k_asm) (by k_asm) (by k_asm) (by k_asm) (by k_asm) rfl rfl rfl rfl (by ktr_room) (by ktr_units) (hpre.keeps FM.keep) ?_; intro bU tU hU tkU kU FU NU)
  k_with "leaving ref" => (k_dflt (rename Heap.NewExc _ _ _ _ => nX; rename Fr s.heap _ _ _ => FL; refine leave_newS (cls := "ValueError") B' nX FL News.nil ?_; intro hR2 R2 _ u2))
  (k_steps; all_goals (repeat (first | (k_unfold; try dsimp only) | dsimp only)))
  · rename ((_ != _) = true) => hne
    refine hraise ?_ _ _ _ R2 u2
    rename KBw.bInts (KBy.picked _ none (some 4)) = _ => k4
    rename KBw.bInts (KBy.picked _ (some (-4)) none) = _ => k5
    exact dcheck_none eD (ne_of_bne hne) k5 k4
  · rename ((_ != _) = false) => heq
    rename KBw.bInts (KBy.picked _ none (some 4)) = _ => k4
    rename KBw.bInts (KBy.picked _ (some (-4)) none) = _ => k5
    rename KBw.bInts (KBy.picked _ none (some (-4))) = _ => k6
    exact hret (PBytes (yD.take (yD.length - 4))) (dcheck_some eD (eq_of_bne heq) k5 k4) _ _ _ (Fr.keep (by assumption)) ⟨_, _, rfl, k6.trans (by rw [clip4])⟩
  · (repeat (first | (k_unfold; try dsimp only) | dsimp only))
    (rename Fr s.heap _ _ _ => FF)
    refine leave_onSN B' FF RR uR fun hR2 R2 _ u2 => ?_
    (repeat (first | (k_unfold; try dsimp only) | dsimp only))
    exact hraise (by unfold dcheckF; rw [eR]; rfl) _ _ _ R2 u2
set_option maxHeartbeats 8000000 in
theorem dcheck_spec4 (g : Addr) (b : Array UInt8) (ks : List Int) (t : Tok) (salt modulus shift : Int) (hk : KBw.bInts b = ks) (hb : ks.length ≤ 64) (h1 : 1 ≤ modulus) (h2 : modulus ≤ 65521) (h3 : 0 ≤ salt) (h4 : salt < 65521) (h5 : shift = 0 ∨ shift = 41) :
    SpecM 77 10 60 [.bytes b t] [("sha256", .ref g)] (fun h => MixAt h g modulus salt shift) ((dcheckF salt modulus shift false bitcoinL ks).map fun x => PBytes x) := by
  intro prog w mean mg mb A env outer A₀ base h₀ L m s Q E B F X T hhd hA hf hke hd hu DK hpre hret hraise
  obtain ⟨hdl, dp, fr, gd, un⟩ := A
  dsimp only at hhd hA hd hu
  subst hhd hA
  refine wpAny_call ?_
  have DK2 : DeepOK w mean mg mb base (env :: outer) s.heap := ⟨DK.inb, DK.top, kts_cons DK.dicts F hf⟩
  k_dflt (refine' enterP ?k1 ?k2 ?k3 ?k5 ?kA ?kF ?kK ?k6 ?k7 ?k8 ?k9 ?kB ?_ ?c2 ?c3 ?c4 ?c5; (case kA => exact rfl); (case kF => assumption); (case kK => assumption); (case k1 => k_asm); (case k2 => k_asm); (case k3 => k_asm);  (case k5 => k_asm); (case k6 => k_is); (case k7 => k_is); (case k8 => (try dsimp only); omega); (case k9 => first | exact BindsTo.of_eq rfl | exact binds_K (by k_in) rfl (by k_is) rfl rfl rfl | (refine' kp_binds ?kx ?ke; (case kx => k_in); (case ke => exact fun _ => rfl))); (case c5 => decide); (case kB => exact locs rfl); (case c2 => exact rfl); (case c3 => exact rfl); (case c4 => exact rfl); k_whole; intro L' h' F' N' B' X' T'; (try dsimp only); (try k_lift B'); (try k_fold))
  (k_with_none; (k_with "pyIter ref" => refine Stop.out ?_); (k_with "pyIter bytes" => refine Stop.out ?_); (k_with "exec While" => refine Stop.out ?_); (k_with "exec While Compare" => refine Stop.out ?_); (k_with "exec While BoolOp" => refine Stop.out ?_); (k_with "exec While Compare cons nil" => refine Stop.out ?_); (k_with "exec While Name" => refine Stop.out ?_); (k_with "InvEndN" => refine Stop.out ?_); (k_with "KswEnd" => refine Stop.out ?_))
  k_with "callWith ref" => (k_dflt (rename Fr s.heap _ _ _ => FM; refine callWith_F (q := g) (fnAt (hpre.keeps FM.keep)) ?_))
  k_with "FnAt" => (k_dflt (rename Fr s.heap _ _ _ => FM; exact fnAt (hpre.keeps FM.keep)))
  k_with "call ref" => first
    | (refine use_bytesR (decode_spec _ _ _ bitcoinL _ _ false hk (by exact rfl) hb (by decide) (by decide) (by decide)) (by k_asm) (by k_asm) (by k_asm) (by k_asm) (by k_asm) rfl rfl rfl rfl (by ktr_room) (by ktr_units) DK2 ?_ ?_; intro yD bD tD hD tkD eD kD FD ND; have lD := decodeF_len hb (by decide) eD; have hm2 : (mixF salt modulus shift (mixF salt modulus shift (List.take (clipAt yD.length (-4)) yD))).length = 6 := rfl; have hm3 : clipAt (mixF salt modulus shift (mixF salt modulus shift (List.take (clipAt yD.length (-4)) yD))).length 4 = 4 := rfl; rotate_left; intro eR xR hR tkR RR uR; rotate_left)
    | (rename Fr s.heap _ _ _ => FM; refine use_bytes (mix_spec g _ _ _ salt modulus shift (by assumption) (by first | omega | (rw [List.length_take]; omega) | (rw [mixF_len]; decide)) h1 h2 h3 h4 h5) (by k_asm) (by k_asm) (by k_asm) (by k_asm) (by k_asm) rfl rfl rfl rfl (by ktr_room) (by ktr_units) (hpre.keeps FM.keep) ?_; intro bU tU hU tkU kU FU NU)
  k_with "leaving ref" => (k_dflt (rename Heap.NewExc _ _ _ _ => nX; rename Fr s.heap _ _ _ => FL; refine leave_newS (cls := "ValueError") B' nX FL News.nil ?_; intro hR2 R2 _ u2))
  (k_steps; all_goals (repeat (first | (k_unfold; try dsimp only) | dsimp only)))
  · rename ((_ != _) = true) => hne
    refine hraise ?_ _ _ _ R2 u2
    rename KBw.bInts (KBy.picked _ none (some 4)) = _ => k4
    rename KBw.bInts (KBy.picked _ (some (-4)) none) = _ => k5
    exact dcheck_none eD (ne_of_bne hne) k5 k4
  · rename ((_ != _) = false) => heq
    rename KBw.bInts (KBy.picked _ none (some 4)) = _ => k4
    rename KBw.bInts (KBy.picked _ (some (-4)) none) = _ => k5
    rename KBw.bInts (KBy.picked _ none (some (-4))) = _ => k6
    exact hret (PBytes (yD.take (yD.length - 4))) (dcheck_some eD (eq_of_bne heq) k5 k4) _ _ _ (Fr.keep (by assumption)) ⟨_, _, rfl, k6.trans (by rw [clip4])⟩
  · (repeat (first | (k_unfold; try dsimp only) | dsimp only))
    (rename Fr s.heap _ _ _ => FF)
    refine leave_onSN B' FF RR uR fun hR2 R2 _ u2 => ?_
    (repeat (first | (k_unfold; try dsimp only) | dsimp only))
    exact hraise (by unfold dcheckF; rw [eR]; rfl) _ _ _ R2 u2

end
/-! F14 -/
section
local macro_rules | `(tactic| walk_at $s:str) => `(tactic| k_extra $s)
abbrev POne (cs : List Int) (_ _ : Heap) (v : Value) : Prop := ∃ b t, v = .bytes b t ∧ OneOk cs (KBw.bInts b)
theorem fm8 (x : Int) : 0 ≤ x.fmod 8 ∧ x.fmod 8 < ((8 : Nat) : Int) := ⟨Int.fmod_nonneg_of_pos _ (by decide), Int.fmod_lt_of_pos _ (by decide)⟩
noncomputable def oddL : List Int := [0, 32, 48, 79, 111, 73, 108, 49]
theorem odd_ok {t1 t2 t3 t4 t5 t6 t7 t8 : Tok} : ∀ x ∈ (#[Value.int 0 t1, .int 32 t2, .int 48 t3, .int 79 t4, .int 111 t5, .int 73 t6, .int 108 t7, .int 49 t8] : Array Value).toList, ∃ n t, x = .int n t ∧ 0 ≤ n ∧ n < 256 := by
  intro x hx
  simp at hx
  rcases hx with rfl | rfl | rfl | rfl | rfl | rfl | rfl | rfl <;> exact ⟨_, _, rfl, by decide, by decide⟩
theorem ints_of {b : Array UInt8} {l : List Int} (h : KBw.bInts b = l) : ∀ x ∈ l, 0 ≤ x ∧ x < 256 := fun x hx => KBw.ints_in (h ▸ hx)
set_option maxHeartbeats 8000000 in
theorem turned_spec (b o c : Array UInt8) (ks os cs : List Int) (t t1 t2 t3 t4 t5 : Tok) (deed place other : Int) (hk : KBw.bInts b = ks) (ho : KBw.bInts o = os) (hc : KBw.bInts c = cs) (htx : ∀ y ∈ ks, y ∈ cs) (hb : ks.length ≤ 58) (hb1 : 1 ≤ ks.length) (hl : os.length ≤ 9) (hl1 : 4 ≤ os.length) (ok : SignsOk cs) (hd0 : 0 ≤ deed) (hd8 : deed < 8) :
    Spec 126 5 40 [.bytes b t, .bytes o t1, .bytes c t2, .int deed t3, .int place t4, .int other t5] [] (fun _ => True) (POne cs) := by
  have hb2 := ok.hi
  have hb3 := ok.lo
  intro prog w mean mg mb A env outer A₀ base h₀ L m s Q E B F X T hhd hA hf hke hd hu hpre hret
  obtain ⟨hdl, dp, fr, gd, un⟩ := A
  dsimp only at hhd hA hd hu hpre
  subst hhd hA
  refine wpAny_call ?_
  k_dflt (refine' enterPC ?k1 ?k2 ?k3 ?k5 ?kA ?kF ?kK ?k6 ?k7 ?k8 ?k9 ?kB ?kD ?_ ?c2 ?c3 ?c4; (case kA => exact rfl); (case kF => assumption); (case kK => assumption); (case k1 => k_asm); (case k2 => k_asm); (case k3 => k_asm);  (case k5 => k_asm); (case k6 => k_is); (case k7 => k_is); (case k8 => (try dsimp only); omega); (case k9 => first | exact BindsTo.of_eq rfl | exact binds_K (by k_in) rfl (by k_is) rfl rfl rfl | (refine' kp_binds ?kx ?ke; (case kx => k_in); (case ke => exact fun _ => rfl))); (case kB => exact rfl); (case kD => decide +kernel); (case c2 => exact rfl); (case c3 => exact rfl); (case c4 => exact rfl); k_whole; intro L' h' tk' cells' F' N' Y' B' X' T'; k_cells Y'; (try simp only [List.cons_append, List.nil_append] at N'); (try dsimp only); (try k_lift B'); (try k_fold))
  have hT0 : IsTup s.heap 78 #[.int 48 290, .int 79 291, .int 111 292] := ⟨_, X' 78 _ (by k_is), rfl, _, rfl⟩
  have hT1 : IsTup s.heap 79 #[.int 73 293, .int 108 294, .int 49 295] := ⟨_, X' 79 _ (by k_is), rfl, _, rfl⟩
  have hT0' : s.heap.IsTuple 78 [Value.int 48 290, .int 79 291, .int 111 292].toArray := ⟨_, X' 78 _ (by k_is), rfl, _, rfl⟩
  have hT1' : s.heap.IsTuple 79 [Value.int 73 293, .int 108 294, .int 49 295].toArray := ⟨_, X' 79 _ (by k_is), rfl, _, rfl⟩
  have hI0 : IntsAre [.int 48 290, .int 79 291, .int 111 292] g0 := .cons _ _ (.cons _ _ (.cons _ _ .nil))
  have hI1 : IntsAre [.int 73 293, .int 108 294, .int 49 295] g1 := .cons _ _ (.cons _ _ (.cons _ _ .nil))
  have hr0 : ∀ k ∈ g0, 0 ≤ k ∧ k < 256 := by decide
  have hr1 : ∀ k ∈ g1, 0 ≤ k ∧ k < 256 := by decide
  (k_with_none; (k_with "pyIter ref" => refine Stop.out ?_); (k_with "pyIter bytes" => refine Stop.out ?_); (k_with "exec While" => refine Stop.out ?_); (k_with "exec While Compare" => refine Stop.out ?_); (k_with "exec While BoolOp" => refine Stop.out ?_); (k_with "exec While Compare cons nil" => refine Stop.out ?_); (k_with "exec While Name" => refine Stop.out ?_); (k_with "InvEndN" => refine Stop.out ?_); (k_with "KswEnd" => refine Stop.out ?_))
  k_with "exec Assign cons ListComp" => refine Stop.out ?_
  k_with "subscriptTail" => ((with_reducible show wpAny _ _ (subscriptTail (Expr.Tuple _ _ _) _ _ _) _ _ _); k_dflt (refine item_tupP (value := .Tuple _ _ _) (fun x => ∃ n t, x = .int n t ∧ 0 ≤ n ∧ n < 256) (by k_asm) (List.Mem.head _) 8 rfl (fm8 _).1 (fm8 _).2 (by decide) odd_ok ?_; rintro _ ⟨nM, tM, rfl, hM1, hM2⟩))
  k_with "call ref" => first
    | (rename KBw.bInts (_ ++ KBy.picked _ _ _) = _ => kX9; (refine use_bytes (text_spec _ _ _ _ _ _ kX9 hc (by (simp only [List.length_append, List.length_take, List.length_drop, List.length_map, List.length_cons, List.length_nil]); omega) (by omega) (by omega)) (by k_asm) (by k_asm) (by k_asm) (by k_asm) (by k_asm) rfl rfl rfl rfl (by ktr_room) (by ktr_units) (by first | trivial | assumption | is_list) ?_; intro bU tU hU tkU kU FU NU); have hin9 := ints_of kX9)
    | (rename KBw.bInts (KBy.picked o none _) = _ => kX9; (refine use_bytes (text_spec _ _ _ _ _ _ kX9 hc (by (simp only [List.length_append, List.length_take, List.length_drop, List.length_map, List.length_cons, List.length_nil]); omega) (by omega) (by omega)) (by k_asm) (by k_asm) (by k_asm) (by k_asm) (by k_asm) rfl rfl rfl rfl (by ktr_room) (by ktr_units) (by first | trivial | assumption | is_list) ?_; intro bU tU hU tkU kU FU NU); have hin9 := ints_of kX9)
  have hp0 : 0 ≤ place.fmod ks.length := Int.fmod_nonneg_of_pos _ (by omega)
  have hp1 : place.fmod ks.length < ks.length := Int.fmod_lt_of_pos _ (by omega)
  have ho0 : 0 ≤ other.fmod cs.length := Int.fmod_nonneg_of_pos _ (by omega)
  have ho1 : other.fmod cs.length < cs.length := Int.fmod_lt_of_pos _ (by omega)
  have htx2 : AllIn cs ks := htx
  k_steps
  · (repeat (first | (k_unfold; try dsimp only) | dsimp only))
    rename KBw.bInts (_ ++ b) = _ => kZ
    refine hret _ _ _ (Fr.keep (by assumption)) ⟨_, _, rfl, ?_⟩
    rw [kZ]
    exact one_signs ok.mem (by simp only [List.length_append, List.length_map, List.length_cons, List.length_nil]; omega) (all_app (all_sign ok (by show (0 : Nat) < _; omega)) htx2)
  · (repeat (first | (k_unfold; try dsimp only) | dsimp only))
    rename KBw.bInts (_ ++ _ ++ _) = _ => kZ
    refine hret _ _ _ (Fr.keep (by assumption)) ⟨_, _, rfl, ?_⟩
    rw [kZ]
    exact one_signs ok.mem (by simp only [List.length_append, List.length_take, List.length_drop, List.length_map, List.length_cons, List.length_nil, clipAt]; omega) (all_app (all_app (all_take htx2) (all_sign ok (by omega))) (all_take (all_drop htx2)))
  · (repeat (first | (k_unfold; try dsimp only) | dsimp only))
    rename KBw.bInts (_ ++ _) = _ => kZ
    refine hret _ _ _ (Fr.keep (by assumption)) ⟨_, _, rfl, ?_⟩
    rw [kZ]
    exact one_signs ok.mem (by simp only [List.length_append, List.length_take, List.length_drop, List.length_map, List.length_cons, List.length_nil, clipAt]; omega) (all_app (all_take htx2) (all_take (all_drop htx2)))
  · (repeat (first | (k_unfold; try dsimp only) | dsimp only))
    rename KBw.bInts (_ ++ _ ++ _) = _ => kZ
    refine hret _ _ _ (Fr.keep (by assumption)) ⟨_, _, rfl, ?_⟩
    rw [kZ]
    exact one_signs ok.mem (by simp only [List.length_append, List.length_take, List.length_drop, List.length_map, List.length_cons, List.length_nil, clipAt]; omega) (all_app (all_app (all_take htx2) (all_sign ok (by omega))) (all_take (all_drop htx2)))
  · (repeat (first | (k_unfold; try dsimp only) | dsimp only))
    rename KBw.bInts (_ ++ _ ++ _ ++ _) = _ => kZ
    refine hret _ _ _ (Fr.keep (by assumption)) ⟨_, _, rfl, ?_⟩
    rw [kZ]
    exact one_signs ok.mem (by simp only [List.length_append, List.length_take, List.length_drop, List.length_map, List.length_cons, List.length_nil, clipAt]; omega) (all_app (all_app (all_app (all_take htx2) (all_take (all_drop htx2))) (all_take (all_drop htx2))) (all_take (all_drop htx2)))
  · refine Stop.mk ?_
    rename Fr s.heap _ _ _ => FC
    rename News s.heap _ _ _ => NC
    k_with "compareOp In int bytes" => first
      | refine in_bytes_int hc (hr0 _ (by assumption)).1 (hr0 _ (by assumption)).2 ?_
      | refine in_bytes_int hc (hr1 _ (by assumption)).1 (hr1 _ (by assumption)).2 ?_
      | refine in_bytes_int hc hM1 hM2 ?_
    k_with "compareOp In int ref" => first
      | refine in_tuple_ints (ns := g0) (IsTup.keeps hT0 (Fr.keep (by assumption))) hI0 ?_
      | refine in_tuple_ints (ns := g1) (IsTup.keeps hT1 (Fr.keep (by assumption))) hI1 ?_
    k_dflt (refine nest_assign (aG := 80) (gs := [(78, g0), (79, g1)]) (fun G => decide (nM ∈ G)) (fun k => decide (k ∈ cs)) FC NC rfl rfl (by decide) (by decide) ⟨_, X' 80 _ (by k_is), rfl, _, rfl⟩ ?zhG (by with_unfolding_all rfl) (by with_unfolding_all rfl) (by decide) (by rfl) (by decide) (by rfl) (by rfl) (by rfl) (by rfl) (by rfl) (by rfl) ?zhi (fun _ => rfl) (fun _ _ => rfl) ?zq1 ?zq2 ?zhQ)
    case zhG =>
      intro a ha
      rcases List.mem_cons.mp ha with rfl | ha
      · exact ⟨_, hT0', hI0⟩
      · rw [List.mem_singleton.mp ha]
        exact ⟨_, hT1', hI1⟩
    case zhi => k_steps
    case zq1 =>
      intro a C h ha hit tk E'
      obtain ⟨oC, m₂, hC, hx, F1, N1⟩ := hit
      rcases List.mem_cons.mp ha with rfl | ha
      · k_steps
        exact any_eq
      · obtain rfl := List.mem_singleton.mp ha
        k_steps
        exact any_eq
    case zq2 =>
      intro a k tk2 C h ha hka hit tk E'
      obtain ⟨oC, m₂, hC, hx, F1, N1⟩ := hit
      have hk01 : 0 ≤ k ∧ k < 256 := by
        rcases List.mem_cons.mp ha with rfl | ha
        · exact hr0 _ hka
        · obtain rfl := List.mem_singleton.mp ha
          exact hr1 _ hka
      k_with "compareOp In int bytes" => refine in_bytes_int hc hk01.1 hk01.2 ?_
      k_steps
    case zhQ =>
      intro DK ysK hK tkK FK NK offK iK
      have lenK := iK.length
      simp only [List.forall_mem_cons, List.not_mem_nil, false_implies, implies_true, and_true] at offK
      (repeat (first | (k_unfold; try dsimp only) | dsimp only))
      k_with "call builtin:len" => (k_dflt (refine kst_len NK (by k_memK) lenK (Int.lt_of_le_of_lt (Int.ofNat_le.mpr (grpsF_len _ _ _ (by decide))) (by decide)) ?_))
      have hb0 : List.take (ks.length - clipAt ks.length (place.fmod ks.length)) (List.drop (clipAt ks.length (place.fmod ks.length)) ks) ≠ [] := by
        intro e
        have := congrArg List.length e
        simp only [List.length_take, List.length_drop, List.length_nil, clipAt] at this
        omega
      k_steps
      · rename KBw.bInts (_ ++ _ ++ _) = _ => kZ
        refine hret _ _ _ (Fr.keep (by assumption)) ⟨_, _, rfl, ?_⟩
        rw [kZ, byte1 (x := 0) (by decide) (by decide)]
        exact one_strange ok.mem (by simp only [List.length_append, List.length_take, List.length_drop, List.length_cons, List.length_nil, clipAt]; omega) (all_take htx2) (all_take (all_drop htx2)) hb0 (zero_none ok.mem).1 (zero_none ok.mem).2
      · rename KBw.bInts (_ ++ _ ++ _) = _ => kZ
        refine hret _ _ _ (Fr.keep (by assumption)) ⟨_, _, rfl, ?_⟩
        rw [kZ, byte1 (x := 0) (by decide) (by decide)]
        exact one_strange ok.mem (by simp only [List.length_append, List.length_take, List.length_drop, List.length_cons, List.length_nil, clipAt]; omega) (all_take htx2) (all_take (all_drop htx2)) hb0 (zero_none ok.mem).1 (zero_none ok.mem).2
      · rename KBw.bInts (_ ++ _ ++ _) = _ => kZ
        rename ¬ nM ∈ cs => hn
        rename ((_ : Nat) : Int) ≠ 1 => hn1
        refine hret _ _ _ (Fr.keep (by assumption)) ⟨_, _, rfl, ?_⟩
        rw [kZ, byte1 hM1 hM2]
        exact one_strange ok.mem (by simp only [List.length_append, List.length_take, List.length_drop, List.length_cons, List.length_nil, clipAt]; omega) (all_take htx2) (all_take (all_drop htx2)) hb0 hn (kin_none hn fun q => hn1 (by rw [q]; rfl))
  · refine hret _ _ _ (Fr.keep (by assumption)) ⟨_, _, rfl, ?_⟩
    rename KBw.bInts bU = _ => kZ
    rw [kZ]
    exact one_text ok (by simp only [List.length_append, List.length_take, List.length_drop, List.length_map, List.length_cons, List.length_nil]; omega) hin9
  · refine hret _ _ _ (Fr.keep (by assumption)) ⟨_, _, rfl, ?_⟩
    rename KBw.bInts bU = _ => kZ
    rw [kZ]
    exact one_text ok (by simp only [List.length_append, List.length_take, List.length_drop, List.length_map, List.length_cons, List.length_nil]; omega) hin9

end
/-! Pure9 -/
section
/- --pure -/
/-! the plain law -/
noncomputable def rankF (cs : List Int) (k : Int) : Int := (tabAt cs cs.length k).getD 0
noncomputable def ranksF (cs one : List Int) : List Int := (one.filter fun k => (tabAt cs cs.length k).isSome).map (rankF cs)
noncomputable def toldF (cs one : List Int) : List Int := List.replicate (nz (ranksF cs one)) 0 ++ (digs 256 (val cs.length (ranksF cs one))).reverse
noncomputable def cut4 (x : List Int) : List Int := x.take (x.length - 4)
noncomputable def wantF (S M H : Int) (cs one : List Int) : Option (List Int) :=
  if (ranksF cs one).length = one.length ∧ 4 ≤ (toldF cs one).length ∧ sumF S M H (cut4 (toldF cs one)) = (toldF cs one).drop ((toldF cs one).length - 4) then some (cut4 (toldF cs one)) else none
theorem rank_of {cs : List Int} {k d : Int} (h : tabAt cs cs.length k = some d) : rankF cs k = d := by unfold rankF; rw [h]; rfl
theorem ranks_all {cs one : List Int} (h : ∀ y ∈ one, y ∈ cs) : ranksF cs one = one.map (rankF cs) := by
  unfold ranksF
  rw [List.filter_eq_self.mpr fun y hy => by rw [tabAt_is]; simpa using h y hy]
theorem ranks_lt {cs one : List Int} {y : Int} (hy : y ∈ one) (hn : y ∉ cs) : (ranksF cs one).length ≠ one.length := by
  unfold ranksF
  rw [List.length_map]
  intro e
  have := List.length_filter_eq_length_iff.mp e y hy
  rw [tabAt_is] at this
  simp at this
  exact hn this
theorem rank0 {cs : List Int} (hn : cs.Nodup) (hl : 1 ≤ cs.length) {k : Int} (h : k ∈ cs) : rankF cs k = 0 ↔ k = cs.getD 0 0 := by
  obtain ⟨d, e⟩ := tabAt_some h
  obtain ⟨_, h2, h3⟩ := tabAt_mem cs _ k d e (Nat.le_refl _)
  rw [rank_of e]
  constructor
  · intro q
    rw [h2, q]
    rfl
  · intro q
    have hd := tabAt_in cs _ k d e
    have e1 : cs[d.toNat]'(by omega) = cs[0]'(by omega) := by
      have a1 : cs.getD d.toNat 0 = cs[d.toNat]'(by omega) := by rw [List.getD_eq_getElem?_getD, List.getElem?_eq_getElem (by omega)]; rfl
      have a2 : cs.getD 0 0 = cs[0]'(by omega) := by rw [List.getD_eq_getElem?_getD, List.getElem?_eq_getElem (by omega)]; rfl
      rw [← a1, ← a2, ← h2, q]
    have := (List.getElem_inj hn).mp e1
    omega
theorem decF_all {cs : List Int} {f : Bool} : ∀ (l : List Int) (a : Int), (∀ y ∈ l, y ∈ cs) → l.foldl (decS (tabF f cs) cs.length) (some a) = some ((l.map (rankF cs)).foldl (fun a x => a * (cs.length : Int) + x) a)
  | [], a, _ => rfl
  | y :: r, a, h => by
    have hy := h y (List.mem_cons_self ..)
    obtain ⟨d, e⟩ := tabAt_some hy
    rw [List.foldl_cons, List.map_cons, List.foldl_cons, show decS (tabF f cs) cs.length (some a) y = some (a * cs.length + d) by unfold decS; rw [tabF_in_cs hy, e]; rfl, rank_of e]
    exact decF_all r _ fun z hz => h z (List.mem_cons_of_mem _ hz)
theorem decF_val {cs l : List Int} {f : Bool} (h : ∀ y ∈ l, y ∈ cs) : decF (tabF f cs) cs.length l = some (val cs.length (l.map (rankF cs))) := decF_all l 0 h
theorem decF_bad {cs l : List Int} {f : Bool} {y : Int} (hy : y ∈ l) (hn : tabF f cs y = none) : decF (tabF f cs) cs.length l = none := by
  obtain ⟨pre, post, rfl⟩ := List.append_of_mem hy
  cases e : decF (tabF f cs) cs.length pre with
  | some a => exact decF_none e hn
  | none =>
    unfold decF at e ⊢
    rw [List.foldl_append, e]
    exact decS_none _
theorem strip_nz {cs : List Int} (hn : cs.Nodup) (hl : 1 ≤ cs.length) : ∀ l : List Int, (∀ y ∈ l, y ∈ cs) → stripC (cs.getD 0 0) l = l.drop (nz (l.map (rankF cs)))
  | [], _ => rfl
  | y :: r, h => by
    have hy := h y (List.mem_cons_self ..)
    unfold stripC
    rw [List.map_cons, List.dropWhile_cons]
    by_cases q : y = cs.getD 0 0
    · have e := (rank0 hn hl hy).mpr q
      rw [if_pos (by simpa using q), e]
      simp only [nz, if_true, List.drop_succ_cons]
      exact strip_nz hn hl r fun z hz => h z (List.mem_cons_of_mem _ hz)
    · have e : ¬ rankF cs y = 0 := fun z => q ((rank0 hn hl hy).mp z)
      rw [if_neg (by simpa using q)]
      simp [nz, e]
theorem tw_all (p : Int → Bool) : ∀ (l : List Int) (y : Int), y ∈ l.takeWhile p → p y = true
  | [], y, h => by simp at h
  | a :: r, y, h => by
    rw [List.takeWhile_cons] at h
    by_cases q : p a = true
    · rw [if_pos q] at h
      rcases List.mem_cons.mp h with rfl | h
      · exact q
      · exact tw_all p r y h
    · rw [if_neg q] at h
      cases h
theorem strip_suffix (c : Int) (l : List Int) : ∃ p, l = p ++ stripC c l ∧ ∀ y ∈ p, y = c := by
  refine ⟨l.takeWhile fun y => decide (y = c), (List.takeWhile_append_dropWhile).symm, fun y hy => ?_⟩
  simpa using tw_all _ _ _ hy
theorem last_nonwhite {x : List Int} (h : rstripL x = x) {y : Int} (hy : x.getLast? = some y) : white y = false := by
  unfold rstripL at h
  have h2 : x.reverse.dropWhile white = x.reverse := by
    have := congrArg List.reverse h
    rwa [List.reverse_reverse] at this
  cases hw : white y with
  | false => rfl
  | true =>
    rw [← List.head?_reverse] at hy
    cases e : x.reverse with
    | nil => rw [e] at hy; cases hy
    | cons a r =>
      rw [e] at hy h2
      cases hy
      rw [List.dropWhile_cons, if_pos hw] at h2
      have := congrArg List.length h2
      have h3 := (List.dropWhile_sublist white (l := r)).length_le
      simp only [List.length_cons] at this
      omega
theorem rstrip_strip {x : List Int} (c : Int) (h : rstripL x = x) : rstripL (stripC c x) = stripC c x := by
  refine rstrip_last fun y hy => ?_
  obtain ⟨p, e, _⟩ := strip_suffix c x
  refine last_nonwhite h ?_
  rw [e, List.getLast?_append, hy]
  rfl
theorem decode_all {cs one : List Int} {f : Bool} (ok : SignsOk cs) (hin : ∀ y ∈ one, y ∈ cs) (ht : rstripL one = one) : decodeF f cs one = some (toldF cs one) := by
  have hl := ok.lo
  unfold decodeF
  have hstrip := strip_nz ok.nodup (by omega) one hin
  have hin2 : ∀ y ∈ stripC (cs.getD 0 0) one, y ∈ cs := fun y hy => by
    rw [hstrip] at hy
    exact hin y (List.mem_of_mem_drop hy)
  rw [ht, rstrip_strip _ ht, decF_val hin2, Option.map_some]
  congr 1
  unfold toldF
  rw [ranks_all hin]
  congr 1
  · congr 1
    rw [hstrip, List.length_drop]
    have := nz_le (one.map (rankF cs))
    rw [List.length_map] at this
    omega
  · congr 2
    rw [hstrip, List.map_drop, val_drop]
theorem decode_bad {cs one : List Int} {f : Bool} {y : Int} (ok : SignsOk cs) (hy : y ∈ one) (hn : y ∉ cs) (hb : tabF f cs y = none) (ht : rstripL one = one) : decodeF f cs one = none := by
  unfold decodeF
  rw [ht, rstrip_strip _ ht]
  have hy2 : y ∈ stripC (cs.getD 0 0) one := by
    obtain ⟨p, e, hp⟩ := strip_suffix (cs.getD 0 0) one
    rw [e] at hy
    rcases List.mem_append.mp hy with h | h
    · exact absurd (hp y h ▸ getD_mem (by have := ok.lo; omega)) hn
    · exact h
  rw [decF_bad hy2 hb]
  rfl
theorem law_one {S M H : Int} {cs one : List Int} {f : Bool} (ok : SignsOk cs) (ht : rstripL one = one) (hc : ∀ y ∈ one, y ∈ cs ∨ (y ∉ cs ∧ tabF f cs y = none)) : dcheckF S M H f cs one = wantF S M H cs one := by
  by_cases hall : ∀ y ∈ one, y ∈ cs
  · have hlen : (ranksF cs one).length = one.length := by rw [ranks_all hall, List.length_map]
    unfold dcheckF
    rw [decode_all ok hall ht, Option.bind_some]
    unfold wantF cut4
    by_cases h4 : 4 ≤ (toldF cs one).length
    · by_cases hs : (toldF cs one).drop ((toldF cs one).length - 4) = sumF S M H ((toldF cs one).take ((toldF cs one).length - 4))
      · rw [if_pos hs, if_pos ⟨hlen, h4, hs.symm⟩]
      · rw [if_neg hs, if_neg fun q => hs q.2.2.symm]
    · rw [if_neg fun q => ?_, if_neg fun q => h4 q.2.1]
      have := congrArg List.length q
      rw [List.length_drop, show (sumF S M H (List.take ((toldF cs one).length - 4) (toldF cs one))).length = 4 from rfl] at this
      omega
  · have ⟨y, hy, hn⟩ : ∃ y, y ∈ one ∧ y ∉ cs := by
      refine Classical.byContradiction fun q => hall fun y hy => Classical.byContradiction fun z => q ⟨y, hy, z⟩
    have hb : tabF f cs y = none := by
      rcases hc y hy with h | h
      · exact absurd h hn
      · exact h.2
    unfold dcheckF wantF
    rw [decode_bad ok hy hn hb ht, if_neg fun q => ranks_lt hy hn q.1]
    rfl

end
/-! Pure10 -/
section
/- --pure -/
/-! there and back -/
theorem val_digs {b : Int} (hb : 2 ≤ b) : ∀ (k : Nat) (c : Int), c.toNat ≤ k → 0 ≤ c → val b (digs b c).reverse = c
  | 0, c, h, h0 => by
    have : c = 0 := by omega
    subst this
    rw [digs_zero (by omega)]
    rfl
  | k + 1, c, h, h0 => by
    by_cases hc : 0 < c
    · have h1 : c / b < c := Int.ediv_lt_self_of_pos_of_ne_one hc (by omega)
      have h2 : 0 ≤ c / b := Int.ediv_nonneg h0 (by omega)
      rw [digs_pos hc hb, List.reverse_cons, val_snoc, val_digs hb k (c / b) (by omega) h2]
      exact Int.ediv_mul_add_emod c b
    · have : c = 0 := by omega
      subst this
      rw [digs_zero (by omega)]
      rfl
theorem nz_snoc (x : Int) : ∀ l : List Int, nz (l ++ [x]) = if nz l = l.length then (if x = 0 then l.length + 1 else l.length) else nz l
  | [] => by by_cases h : x = 0 <;> simp [nz, h]
  | y :: r => by
    rw [List.cons_append]
    have ih := nz_snoc x r
    by_cases h : y = 0
    · simp only [nz, h, if_true, ih, List.length_cons]
      by_cases q : nz r = r.length
      · simp only [q, if_true]
        split <;> rfl
      · rw [if_neg q, if_neg (by omega)]
    · simp [nz, h]
theorem val_full {b : Int} : ∀ l : List Int, nz l = l.length → val b l = 0
  | l, h => by
    have := val_drop b l
    rw [h, List.drop_length] at this
    rw [← this]
    rfl
theorem snoc_ind {P : List Int → Prop} (h0 : P []) (h1 : ∀ l x, P l → P (l ++ [x])) (l : List Int) : P l := by
  rw [← List.reverse_reverse l]
  induction l.reverse with
  | nil => exact h0
  | cons x r ih => rw [List.reverse_cons]; exact h1 _ _ ih
theorem val_pos {b : Int} (hb : 1 ≤ b) (l : List Int) : (∀ x ∈ l, 0 ≤ x) → nz l ≠ l.length → 0 < val b l := by
  refine snoc_ind (P := fun l => (∀ x ∈ l, 0 ≤ x) → nz l ≠ l.length → 0 < val b l) (fun _ h => absurd rfl h) (fun l x ih hx hn => ?_) l
  have hl : ∀ y ∈ l, 0 ≤ y := fun y hy => hx y (List.mem_append_left _ hy)
  have hxx : 0 ≤ x := hx x (by simp)
  rw [val_snoc]
  rw [nz_snoc] at hn
  have hv := val_nonneg (old := b) (by omega) l hl
  by_cases q : nz l = l.length
  · rw [if_pos q] at hn
    have hx0 : x ≠ 0 := fun e => hn (by rw [if_pos e]; simp)
    have := Int.mul_nonneg hv (show 0 ≤ b by omega)
    omega
  · have := ih hl q
    have := Int.mul_pos this (show 0 < b by omega)
    omega
theorem digs_val {b : Int} (hb : 2 ≤ b) (l : List Int) : (∀ x ∈ l, 0 ≤ x ∧ x < b) → (digs b (val b l)).reverse = l.drop (nz l) := by
  refine snoc_ind (P := fun l => (∀ x ∈ l, 0 ≤ x ∧ x < b) → (digs b (val b l)).reverse = l.drop (nz l)) (fun _ => by rw [show val b [] = 0 from rfl, digs_zero (by omega)]; rfl) (fun l x ih hx => ?_) l
  have hl : ∀ y ∈ l, 0 ≤ y ∧ y < b := fun y hy => hx y (List.mem_append_left _ hy)
  obtain ⟨hx0, hx1⟩ := hx x (by simp)
  have ihl := ih hl
  have hv := val_nonneg (old := b) (by omega) l fun y hy => (hl y hy).1
  rw [val_snoc, nz_snoc]
  have hle := nz_le l
  by_cases q : nz l = l.length
  · rw [if_pos q, val_full l q, Int.zero_mul, Int.zero_add]
    by_cases hz : x = 0
    · rw [if_pos hz, hz, digs_zero (by omega)]
      simp
    · rw [if_neg hz, digs_pos (by omega) hb, Int.emod_eq_of_lt hx0 hx1, Int.ediv_eq_zero_of_lt hx0 hx1, digs_zero (by omega)]
      simp
  · have hp := val_pos (b := b) (by omega) l (fun y hy => (hl y hy).1) q
    have hm := Int.mul_pos hp (show 0 < b by omega)
    rw [if_neg q, digs_pos (by omega) hb, List.reverse_cons]
    have e1 : (val b l * b + x) % b = x := by
      rw [Int.add_comm, Int.add_mul_emod_self_right]
      exact Int.emod_eq_of_lt hx0 hx1
    have e2 : (val b l * b + x) / b = val b l := by
      rw [Int.add_comm, Int.add_mul_ediv_right _ _ (by omega), Int.ediv_eq_zero_of_lt hx0 hx1, Int.zero_add]
    rw [e1, e2, ihl, List.drop_append_of_le_length hle]
theorem nz_digs {b c : Int} (hb : 2 ≤ b) (hc : 0 ≤ c) : nz (digs b c).reverse = 0 := by
  have h := digs_val hb (digs b c).reverse fun x hx => digs_in _ _ (Nat.le_refl _) x (List.mem_reverse.mp hx)
  rw [val_digs hb _ c (Nat.le_refl _) hc] at h
  have := congrArg List.length h
  rw [List.length_drop] at this
  have := nz_le (digs b c).reverse
  cases e : (digs b c).reverse with
  | nil => rfl
  | cons a r =>
    rw [e] at this
    simp only [e, List.length_cons] at *
    omega
theorem nz_rep (D : List Int) : ∀ z : Nat, nz (List.replicate z 0 ++ D) = z + nz D
  | 0 => by simp
  | z + 1 => by
    rw [List.replicate_succ, List.cons_append]
    simp only [nz, if_true]
    rw [nz_rep D z]
    omega
theorem nz_split : ∀ l : List Int, l = List.replicate (nz l) 0 ++ l.drop (nz l)
  | [] => rfl
  | y :: r => by
    by_cases h : y = 0
    · simp only [nz, h, if_true, List.replicate_succ, List.cons_append, List.drop_succ_cons]
      rw [← nz_split r]
    · simp [nz, h]
theorem rank_sign {cs : List Int} (hn : cs.Nodup) {k : Int} (h0 : 0 ≤ k) (h1 : k < cs.length) : rankF cs (cs.getD k.toNat 0) = k := by
  have hm : cs.getD k.toNat 0 ∈ cs := getD_mem (by omega)
  obtain ⟨d, e⟩ := tabAt_some hm
  obtain ⟨_, h2, h3⟩ := tabAt_mem cs _ _ d e (Nat.le_refl _)
  have hd := tabAt_in cs _ _ d e
  rw [rank_of e]
  have a1 : cs.getD d.toNat 0 = cs[d.toNat]'(by omega) := by rw [List.getD_eq_getElem?_getD, List.getElem?_eq_getElem (by omega)]; rfl
  have a2 : cs.getD k.toNat 0 = cs[k.toNat]'(by omega) := by rw [List.getD_eq_getElem?_getD, List.getElem?_eq_getElem (by omega)]; rfl
  rw [a1, a2] at h2
  have := (List.getElem_inj hn).mp h2
  omega
theorem ranks_text {cs w : List Int} (ok : SignsOk cs) : (textF cs w).map (rankF cs) = List.replicate (nz w) 0 ++ (digs cs.length (val 256 w)).reverse := by
  have hl := ok.lo
  unfold textF
  rw [List.map_append, List.map_replicate, List.map_map]
  have e0 : rankF cs (cs.getD 0 0) = 0 := rank_sign ok.nodup (k := 0) (by decide) (by omega)
  rw [e0]
  congr 1
  rw [List.map_congr_left (g := id) fun k hk => ?_, List.map_id]
  have := digs_in _ _ (Nat.le_refl _) k (List.mem_reverse.mp hk)
  exact rank_sign ok.nodup this.1 this.2
theorem told_text {cs w : List Int} (ok : SignsOk cs) (hw : ∀ x ∈ w, 0 ≤ x ∧ x < 256) : toldF cs (textF cs w) = w := by
  have hl := ok.lo
  have hv := val_nonneg (old := 256) (by decide) w fun x hx => (hw x hx).1
  unfold toldF
  have hin : ∀ y ∈ textF cs w, y ∈ cs := textF_mem (by omega)
  rw [ranks_all hin, ranks_text ok]
  have hnz : nz (List.replicate (nz w) 0 ++ (digs cs.length (val 256 w)).reverse) = nz w := by rw [nz_rep, nz_digs (by omega) hv]; rfl
  have hval : val cs.length (List.replicate (nz w) 0 ++ (digs cs.length (val 256 w)).reverse) = val 256 w := by
    have := val_drop cs.length (List.replicate (nz w) 0 ++ (digs cs.length (val 256 w)).reverse)
    rw [hnz] at this
    rw [← this, List.drop_left' (by simp)]
    exact val_digs (by omega) _ _ (Nat.le_refl _) hv
  rw [hnz, hval, digs_val (by decide) w hw]
  exact (nz_split w).symm
theorem sumF_len (S M H : Int) (o : List Int) : (sumF S M H o).length = 4 := rfl
theorem sumF_in (S M H : Int) (o : List Int) : ∀ x ∈ sumF S M H o, 0 ≤ x ∧ x < 256 := fun x hx => mixF_in S M H _ x (List.mem_of_mem_take hx)
theorem want_text {S M H : Int} {cs o : List Int} (ok : SignsOk cs) (ho : ∀ x ∈ o, 0 ≤ x ∧ x < 256) : wantF S M H cs (textF cs (o ++ sumF S M H o)) = some o := by
  have hl := ok.lo
  have hw : ∀ x ∈ o ++ sumF S M H o, 0 ≤ x ∧ x < 256 := fun x hx => (List.mem_append.mp hx).elim (ho x) (sumF_in S M H o x)
  have hlen : (o ++ sumF S M H o).length - 4 = o.length := by rw [List.length_append, sumF_len]; omega
  unfold wantF cut4
  rw [told_text ok hw, hlen, List.take_left' rfl, List.drop_left' rfl]
  rw [if_pos ⟨by rw [ranks_all (textF_mem (by omega)), List.length_map], by rw [List.length_append, sumF_len]; omega, rfl⟩]
theorem rstrip_text {cs w : List Int} (ok : SignsOk cs) : rstripL (textF cs w) = textF cs w := by
  have hl := ok.lo
  exact rstrip_last fun y e => sign_nonwhite ok.mem (textF_mem (by omega) y (List.mem_of_getLast? e))
theorem plain_text {S M H : Int} {cs o : List Int} {f : Bool} (ok : SignsOk cs) (ho : ∀ x ∈ o, 0 ≤ x ∧ x < 256) : dcheckF S M H f cs (textF cs (o ++ sumF S M H o)) = some o := by
  have hl := ok.lo
  rw [law_one ok (rstrip_text ok) fun y hy => .inl (textF_mem (by omega) y hy), want_text ok ho]
theorem rstrip_behind {x b : List Int} (h : rstripL x = x) (hb : ∀ y ∈ b, white y = true) : rstripL (x ++ b) = rstripL x := by
  unfold rstripL
  rw [List.reverse_append]
  congr 1
  have : ∀ l : List Int, (∀ y ∈ l, white y = true) → (l ++ x.reverse).dropWhile white = x.reverse.dropWhile white := by
    intro l
    induction l with
    | nil => intro _; rfl
    | cons a r ih =>
      intro hl
      rw [List.cons_append, List.dropWhile_cons, if_pos (hl a (List.mem_cons_self ..))]
      exact ih fun y hy => hl y (List.mem_cons_of_mem _ hy)
  exact this _ fun y hy => hb y (List.mem_reverse.mp hy)
theorem dcheck_behind {S M H : Int} {f : Bool} {cs x b : List Int} (h : rstripL x = x) (hb : ∀ y ∈ b, white y = true) : dcheckF S M H f cs (x ++ b) = dcheckF S M H f cs x := by
  unfold dcheckF decodeF
  rw [rstrip_behind h hb]

end
/-! Pure11 -/
section
/- --pure -/
/-! what a copied text becomes with autofix -/
theorem cop_false (cs : List Int) (o : Int) : ∀ (r acc : List Int), (r.foldl (copyStep cs o) (false, acc)).2 = acc ++ r.map (copy1 cs o)
  | [], acc => by simp
  | x :: r, acc => by
    rw [List.foldl_cons]
    show (r.foldl (copyStep cs o) (false && decide (x = cs.getD 0 0), acc ++ [if (false && decide (x = cs.getD 0 0)) = true then x else copy1 cs o x])).2 = _
    rw [Bool.false_and, if_neg (by decide), cop_false cs o r, List.map_cons, List.append_assoc]
    rfl
theorem cop_true (cs : List Int) (o : Int) : ∀ (r acc : List Int), (r.foldl (copyStep cs o) (true, acc)).2 = acc ++ (r.takeWhile (fun y => decide (y = cs.getD 0 0)) ++ (stripC (cs.getD 0 0) r).map (copy1 cs o))
  | [], acc => by simp [stripC]
  | x :: r, acc => by
    rw [List.foldl_cons]
    show (r.foldl (copyStep cs o) (true && decide (x = cs.getD 0 0), acc ++ [if (true && decide (x = cs.getD 0 0)) = true then x else copy1 cs o x])).2 = _
    rw [Bool.true_and]
    unfold stripC
    rw [List.takeWhile_cons, List.dropWhile_cons]
    by_cases h : x = cs.getD 0 0
    · have hd : decide (x = cs.getD 0 0) = true := by simpa using h
      rw [hd, if_pos rfl, if_pos rfl, if_pos rfl, cop_true cs o r, List.append_assoc]
      rfl
    · have hd : decide (x = cs.getD 0 0) = false := by simpa using h
      rw [hd, if_neg (by decide), if_neg (by decide), if_neg (by decide), cop_false, List.map_cons, List.append_assoc]
      rfl
theorem copied_eq (cs : List Int) (o : Int) (l : List Int) : (copied cs o l).2 = l.takeWhile (fun y => decide (y = cs.getD 0 0)) ++ (stripC (cs.getD 0 0) l).map (copy1 cs o) := by
  unfold copied
  rw [cop_true]
  rfl
theorem only_one {cs G : List Int} {y z : Int} (h : (G.filter fun c => decide (c ∈ cs)).length = 1) (hy : y ∈ G) (hyc : y ∈ cs) (hz : z ∈ G) (hzc : z ∈ cs) : z = y := by
  match e : G.filter (fun c => decide (c ∈ cs)), h with
  | [a], _ =>
    have h1 : y ∈ G.filter fun c => decide (c ∈ cs) := List.mem_filter.mpr ⟨hy, by simpa using hyc⟩
    have h2 : z ∈ G.filter fun c => decide (c ∈ cs) := List.mem_filter.mpr ⟨hz, by simpa using hzc⟩
    rw [e] at h1 h2
    rw [List.mem_singleton.mp h1, List.mem_singleton.mp h2]
theorem fix_piv {G : List Int} {g : Int → Option Int} {y z : Int} (h : (G.filter fun c => (g c).isSome).length = 1) (hy : y ∈ G) (hg : (g y).isSome) (hz : z ∈ G) : fixOne G g z = g y := by
  unfold fixOne
  rw [if_pos h, if_pos hz]
  match e : G.filter (fun c => (g c).isSome), h with
  | [a], _ =>
    have h1 : y ∈ G.filter fun c => (g c).isSome := List.mem_filter.mpr ⟨hy, hg⟩
    rw [e] at h1
    rw [List.mem_singleton.mp h1]
    rfl
theorem get3 {G : List Int} (hG : G.length = 3) (o : Int) : G.getD (o.fmod 3).toNat 0 ∈ G := by
  refine getD_mem ?_
  have h0 : 0 ≤ o.fmod 3 := Int.fmod_nonneg_of_pos _ (by decide)
  have h1 : o.fmod 3 < 3 := Int.fmod_lt_of_pos _ (by decide)
  omega
theorem copy1_cases (cs : List Int) (o y : Int) : copy1 cs o y = y ∨ (y ∈ h0 ∧ (h0.filter fun c => decide (c ∈ cs)).length = 1 ∧ copy1 cs o y ∈ h0) ∨ (y ∈ h1 ∧ (h1.filter fun c => decide (c ∈ cs)).length = 1 ∧ copy1 cs o y ∈ h1) := by
  have e0 : g0 = h0 := rfl
  have e1 : g1 = h1 := rfl
  unfold copy1 exch cnt
  rw [e0, e1]
  by_cases c1 : y ∈ h1 ∧ (h1.filter fun c => decide (c ∈ cs)).length = 1
  · right; right
    rw [if_pos c1]
    exact ⟨c1.1, c1.2, get3 rfl o⟩
  · rw [if_neg c1]
    by_cases c0 : y ∈ h0 ∧ (h0.filter fun c => decide (c ∈ cs)).length = 1
    · right; left
      rw [if_pos c0]
      exact ⟨c0.1, c0.2, get3 rfl o⟩
    · left
      rw [if_neg c0]
theorem copy1_tab {cs : List Int} {o y : Int} (hy : y ∈ cs) : tabF true cs (copy1 cs o y) = tabF true cs y := by
  obtain ⟨d, hd⟩ := tabAt_some hy
  rcases copy1_cases cs o y with h | ⟨h, hl, hz⟩ | ⟨h, hl, hz⟩
  · rw [h]
  · rw [tabF_in_cs hy]
    unfold tabF
    rw [if_pos rfl, fix_out (h10 _ hz)]
    exact fix_piv (by rw [filt_eq]; exact hl) h (by rw [hd]; rfl) hz
  · rw [tabF_in_cs hy]
    unfold tabF
    rw [if_pos rfl]
    have e : fixOne h0 (tabAt cs cs.length) y = tabAt cs cs.length y := fix_out (h01 _ h)
    rw [fix_piv (y := y) (by rw [filt1_eq]; exact hl) h (by rw [e, hd]; rfl) hz, e]
theorem copy1_in_cs {cs : List Int} {o y : Int} (hy : y ∈ cs) (h : copy1 cs o y ∈ cs) : copy1 cs o y = y := by
  rcases copy1_cases cs o y with e | ⟨hy0, hl, hz⟩ | ⟨hy0, hl, hz⟩
  · exact e
  · exact only_one hl hy0 hy hz h
  · exact only_one hl hy0 hy hz h
theorem copy1_white {cs : List Int} (ok : ∀ x ∈ cs, 33 ≤ x ∧ x < 256) {o y : Int} (hy : y ∈ cs) : white (copy1 cs o y) = false := by
  rcases copy1_cases cs o y with e | ⟨_, _, hz⟩ | ⟨_, _, hz⟩
  · rw [e]; exact sign_nonwhite ok hy
  · revert hz
    generalize copy1 cs o y = z
    intro hz
    have : ∀ z ∈ h0, white z = false := by decide
    exact this z hz
  · revert hz
    generalize copy1 cs o y = z
    intro hz
    have : ∀ z ∈ h1, white z = false := by decide
    exact this z hz
theorem retold_mem {cs x : List Int} {o : Int} (hx : ∀ y ∈ x, y ∈ cs) {z : Int} (hz : z ∈ (copied cs o x).2) : ∃ y, y ∈ cs ∧ (z = y ∨ z = copy1 cs o y) := by
  rw [copied_eq] at hz
  rcases List.mem_append.mp hz with h | h
  · exact ⟨z, hx z ((List.takeWhile_sublist _).mem h), .inl rfl⟩
  · obtain ⟨y, hy, rfl⟩ := List.mem_map.mp h
    exact ⟨y, hx y ((List.dropWhile_sublist _).mem hy), .inr rfl⟩
theorem retold_white {cs x : List Int} {o : Int} (ok : SignsOk cs) (hx : ∀ y ∈ x, y ∈ cs) {z : Int} (hz : z ∈ (copied cs o x).2) : white z = false := by
  obtain ⟨y, hy, rfl | rfl⟩ := retold_mem hx hz
  · exact sign_nonwhite ok.mem hy
  · exact copy1_white ok.mem hy
theorem rstrip_retold {cs x : List Int} {o : Int} (ok : SignsOk cs) (hx : ∀ y ∈ x, y ∈ cs) : rstripL (copied cs o x).2 = (copied cs o x).2 :=
  rstrip_last fun _ e => retold_white ok hx (List.mem_of_getLast? e)
theorem dropw_app {p : Int → Bool} : ∀ (a b : List Int), (∀ y ∈ a, p y = true) → (∀ y, b.head? = some y → p y = false) → (a ++ b).dropWhile p = b
  | [], b, _, h => dropw_none h
  | y :: r, b, ha, h => by
    rw [List.cons_append, List.dropWhile_cons, if_pos (ha y (List.mem_cons_self ..))]
    exact dropw_app r b (fun z hz => ha z (List.mem_cons_of_mem _ hz)) h
theorem strip_head {c : Int} : ∀ {l : List Int} {y : Int}, (stripC c l).head? = some y → y ≠ c
  | [], y, h => by simp [stripC] at h
  | a :: r, y, h => by
    unfold stripC at h
    rw [List.dropWhile_cons] at h
    by_cases q : a = c
    · rw [if_pos (by simpa using q)] at h
      exact strip_head (l := r) h
    · rw [if_neg (by simpa using q)] at h
      cases h
      exact q
theorem strip_retold {cs x : List Int} {o : Int} (ok : SignsOk cs) (hx : ∀ y ∈ x, y ∈ cs) : stripC (cs.getD 0 0) (copied cs o x).2 = (stripC (cs.getD 0 0) x).map (copy1 cs o) := by
  have hl := ok.lo
  rw [copied_eq]
  refine dropw_app _ _ (fun y hy => tw_all _ _ _ hy) fun y hy => ?_
  cases e : stripC (cs.getD 0 0) x with
  | nil => rw [e] at hy; cases hy
  | cons a r =>
    rw [e] at hy
    cases hy
    have ha : a ≠ cs.getD 0 0 := strip_head (l := x) (by rw [e]; rfl)
    have hac : a ∈ cs := hx a ((List.dropWhile_sublist _).mem (show a ∈ stripC (cs.getD 0 0) x by rw [e]; exact List.mem_cons_self ..))
    simp only [decide_eq_false_iff_not]
    intro q
    have hc0 : cs.getD 0 0 ∈ cs := getD_mem (by omega)
    have := copy1_in_cs (o := o) hac (by rw [q]; exact hc0)
    rw [q] at this
    exact ha this.symm
theorem decF_map {g : Int → Option Int} {n : Int} {c : Int → Int} : ∀ (l : List Int) (a : Option Int), (∀ y ∈ l, g (c y) = g y) → (l.map c).foldl (decS g n) a = l.foldl (decS g n) a
  | [], a, _ => rfl
  | y :: r, a, h => by
    rw [List.map_cons, List.foldl_cons, List.foldl_cons]
    have e : decS g n a (c y) = decS g n a y := by unfold decS; rw [h y (List.mem_cons_self ..)]
    rw [e]
    exact decF_map r _ fun z hz => h z (List.mem_cons_of_mem _ hz)
theorem decode_retold {cs x : List Int} {o : Int} (ok : SignsOk cs) (hx : ∀ y ∈ x, y ∈ cs) (ht : rstripL x = x) : decodeF true cs (copied cs o x).2 = decodeF true cs x := by
  unfold decodeF
  rw [rstrip_retold ok hx, ht, strip_retold ok hx, rstrip_strip _ ht]
  have hr : rstripL ((stripC (cs.getD 0 0) x).map (copy1 cs o)) = (stripC (cs.getD 0 0) x).map (copy1 cs o) := by
    refine rstrip_last fun y e => ?_
    obtain ⟨z, hz, rfl⟩ := List.mem_map.mp (List.mem_of_getLast? e)
    exact copy1_white ok.mem (hx z ((List.dropWhile_sublist _).mem hz))
  rw [hr]
  have e : decF (tabF true cs) cs.length ((stripC (cs.getD 0 0) x).map (copy1 cs o)) = decF (tabF true cs) cs.length (stripC (cs.getD 0 0) x) := decF_map _ _ fun y hy => copy1_tab (hx y ((List.dropWhile_sublist _).mem hy))
  rw [e, copied_len, List.length_map]
theorem retold_fixed {S M H : Int} {cs oc : List Int} {o : Int} (ok : SignsOk cs) (ho : ∀ x ∈ oc, 0 ≤ x ∧ x < 256) : dcheckF S M H true cs (copied cs o (textF cs (oc ++ sumF S M H oc))).2 = some oc := by
  have hl := ok.lo
  have := plain_text (f := true) (S := S) (M := M) (H := H) ok ho
  unfold dcheckF at this ⊢
  rw [decode_retold ok (textF_mem (by omega)) (rstrip_text ok)]
  exact this
theorem retold_one {S M H : Int} {cs x : List Int} {o : Int} (ok : SignsOk cs) (hx : ∀ y ∈ x, y ∈ cs) : dcheckF S M H false cs (copied cs o x).2 = wantF S M H cs (copied cs o x).2 :=
  law_one ok (rstrip_retold ok hx) fun y _ => by
    by_cases h : y ∈ cs
    · exact .inl h
    · exact .inr ⟨h, tabF_none0 h⟩
theorem one_law {S M H : Int} {cs x : List Int} {f : Bool} (ok : SignsOk cs) (h : OneOk cs x) : dcheckF S M H f cs x = wantF S M H cs x :=
  law_one ok h.tl fun y hy => by
    rcases h.ch y hy with q | ⟨q, r⟩
    · exact .inl q
    · cases f with
      | true => exact .inr ⟨q, r⟩
      | false => exact .inr ⟨q, tabF_none0 q⟩

end
/-! Rules25 -/
section
/- --pure -/
section
variable {prog : Program} {w : World} {A₀ : Around} {E : Value → Shared → Prop} {s' : Shared} {h₀ h : Heap} {outer : List Env} {L a e : Addr} {m : Str → Option Value} {name : Str} {scope : Scope} {cd : Value} {cells : List (Str × Addr)}
  {b₀ : Stmt} {suite : List Stmt} {pos np : Pos} {rest : List ExceptHandler} {Q : Flow → Shared → Prop} {news : List (Addr × Obj)} {KF : Frag}
  {p : Program} {loose : List Str} {mean : ExcName → Option Value} {mg mb : Str → Option Value} {x : Str} {X T' : String}
theorem raisedN_news {base h h' : Heap} {env : Env} {e : Addr} {cls : Value} (R : RaisedSN base h [env] e cls [] h') (hf : env.frame = some L) (N : News base L h news) : RaisedN base [env] e cls news h' := by
  obtain ⟨B, a0, hB, hG, _, hfl⟩ := R
  refine ⟨B, a0, hB, fun q hq => ⟨hG _ _ (N q hq).1 fun hm => ?_, (N q hq).2.2⟩, hfl⟩
  rw [List.filterMap_cons, hf] at hm
  exact (N q hq).2.1 (List.mem_singleton.mp hm)
/-- the law looks at what a call raised; its own frame has cells -/
theorem caught_C (hAf : (A₀.deeper (envX name scope L a cd cells)).frames = some [envX name scope L a cd cells]) (F : Fr h₀ L h m) (hsm : h.UpToSlots s'.heap) (R : RaisedN h₀ [envX name scope L a cd cells] e (.type X) news s'.heap)
    (XB : KF.In h₀) (T : Top p loose mean mg mb h₀) (ex : nsIn KF mainGlobals x = some none) (hv : bootBuiltins x = some (.type T')) (hn' : x ≠ "__name__")
    (hexc : isSubtype (.type T') (.type "BaseException") = pure true) (hnt : isSubtype (.type ((Manifest.find? T').elim "type" fun y => y.metatype)) (.type "tuple") = pure false) (hsub : isSubtype (.type X) (.type T') = pure true)
    (k : ∀ h', Fr h₀ L h' m → News h₀ L h' news →
      wpAny (model prog w) ((A₀.deeper (envX name scope L a cd cells)).mark (some (.ref e))) (execs (b₀ :: suite) (envX name scope L a cd cells)) Q E { s' with heap := h' })
    (hE : PassesOwnAt (model prog w) ((A₀.deeper (envX name scope L a cd cells)).mark (some (.ref e))) (A₀.deeper (envX name scope L a cd cells)) (envX name scope L a cd cells) E)
    (hk : scope.kind = .function := by rfl) (hx : (envX name scope L a cd cells).kindOf x = some .globalImplicit := by rfl) (hd : (x == ("__debug__" : Str)) = false := by decide) :
    wpAny (model prog w) (A₀.deeper (envX name scope L a cd cells)) (noteFrame (.ref e) (envX name scope L a cd cells))
      (fun _ s₂ => wpAny (model prog w) (A₀.deeper (envX name scope L a cd cells)) (setFlight (.ref e) none) (fun _ s₃ =>
        wpAny (model prog w) (A₀.deeper (envX name scope L a cd cells)) (handleBy (.ref e) (envX name scope L a cd cells) (.ExceptHandler (some (.Name x np)) none (b₀ :: suite) pos :: rest)) Q E s₃) E s₂) E s' := by
  obtain ⟨B, a0, hB, hl, hfl⟩ := R
  have hL : B.get? L = none := by
    obtain ⟨_, ⟨L', _, hf, hn', _⟩, _⟩ := hfl.2.2.1
    obtain rfl : L = L' := Option.some.inj hf
    exact hn'
  have PT := topRead_of T
  refine wpAny_looks_onW hAf rfl hfl fun h₄ hheld₄ hsm₄ => ?_
  refine wpAny_landsW hheld₄ fun h₅ hheld hsm₅' => ?_
  have hsm₅ := hsm₄.trans hsm₅'
  have hheld' := flyingW_base hB hheld
  have F₅ := F.of_stays hheld'.1 (hsm.trans hsm₅)
  obtain ⟨ob, hob, hobc⟩ := hheld'.there
  refine wpAny_handleBy_builtin (X := X) (T := T') (b := true) hexc hnt hsub (Calls.Name_function_global hk hx (Calls.loadGlobal_builtin (env := envX name scope L a cd cells) (PT.g.keeps F₅.keep) (mg_none_of XB PT.g ex) (PT.b.keeps F₅.keep) ((PT.builtins x hn').trans hv) ⟨rfl, ⟨ob, hob, hobc⟩, ?_⟩) hd)
  refine lands_againW hheld fun h₆ hfl₆ hsm₆ => ?_
  have F₆ := F.of_stays (flyingW_base hB hfl₆).1 ((hsm.trans hsm₅).trans hsm₆)
  exact wpAny_passesOwnAt hE (k h₆ F₆ fun q hq => ⟨hfl₆.1 _ _ (hl q hq).1, (fun z => by have := (hl q hq).1; rw [z, hL] at this; cases this), (hl q hq).2⟩)
end

end
/-! Rules26 -/
section
/- --pure -/
noncomputable def CutS (P : Value → Prop) (h₀ : Heap) (L : Addr) (x : Str) (m : Str → Option Value) (news : List (Addr × Obj)) (s : Shared) (fl : Flow) (s' : Shared) : Prop :=
  fl = .next ∧ ∃ v h' tk', P v ∧ s' = { s with heap := h', toks := tk' } ∧ Fr h₀ L h' (fun y => if y = x then some v else m y) ∧ News h₀ L h' news
theorem cutS {M : Model} {A : Around} {E : Value → Shared → Prop} {s : Shared} {h₀ : Heap} {L : Addr} {m : Str → Option Value} {news : List (Addr × Obj)} {st : Stmt} {env : Env} {Q : Flow → Shared → Prop} (P : Value → Prop) (x : Str) (_F : Fr h₀ L s.heap m) (_N : News h₀ L s.heap news)
    (h1 : wpAny M A (exec st env) (CutS P h₀ L x m news s) E s)
    (h2 : ∀ v h' tk', P v → Fr h₀ L h' (fun y => if y = x then some v else m y) → News h₀ L h' news → Q .next { s with heap := h', toks := tk' }) : wpAny M A (exec st env) Q E s :=
  wpAny_mono h1 (fun fl s' ⟨ef, v, h', tk', p, es, F', N'⟩ => by subst ef; subst es; exact h2 v h' tk' p F' N') fun _ _ x => x
section
variable {prog : Program} {w : World} {mean : ExcName → Option Value} {mg mb : Str → Option Value} {A : Around} {env : Env} {outer : List Env} {A₀ : Around} {base h₀ : Heap} {L : Addr} {m : Str → Option Value} {s : Shared} {Q E : Value → Shared → Prop} {news : List (Addr × Obj)}
  {f : Addr} {n u : Nat} {vs : List Value} {kw : List (Str × Value)} {Pre : Heap → Prop}
theorem use_bytesM {x : Option (List Int)} (H : SpecM f n u vs kw Pre (x.map fun y => PBytes y)) (B : Below A₀ base outer h₀) (F : Fr h₀ L s.heap m) (X : (hd.heap_39 w.params).In h₀) (T : TT mean mg mb h₀) (N : News h₀ L s.heap news)
    (hh : A.handled = none) (hA : A.frames = some (env :: outer)) (hf : env.frame = some L) (hke : env.scope.kind = .function) (hd : A.depth + n < recursionLimit) (hu : A.units + u < cLine) (DK : DeepOK w mean mg mb base outer h₀) (hpre : Pre s.heap)
    (k : ∀ y b t h' tk', x = some y → KBw.bInts b = y → Fr h₀ L h' m → News h₀ L h' news → Q (.bytes b t) { s with heap := h', toks := tk' })
    (kr : x = none → ∀ e h' tk', RaisedSN base s.heap (env :: outer) e (.type "ValueError") [] h' → s.heap.UpToSlots h' → E (.ref e) { s with heap := h', toks := tk' }) : wpAny (model prog w) A (call (.ref f) vs kw) Q E s := by
  refine H _ _ _ _ _ _ _ _ _ _ _ _ _ _ _ _ B F X T hh hA hf hke hd hu DK hpre ?_ ?_
  · intro P hP v h' tk' st hv
    cases x with
    | none => cases hP
    | some y =>
      cases hP
      obtain ⟨b, t, rfl, hb⟩ := hv
      exact k y b t h' tk' rfl hb (fr_stays F st) (news_stays N st)
  · intro hP
    cases x with
    | none => exact kr rfl
    | some y => cases hP
end
/-- names that stay, upon names that may change -/
theorem fr_kst {h₀ h : Heap} {L : Addr} {m : Str → Option Value} {ps : List (Str × Value)} (F : Fr h₀ L h m) (hk : ∀ p ∈ ps, m p.1 = some p.2) : Fr h₀ L h (kstB m ps) := by
  have e : kstB m ps = m := by
    funext y
    clear F
    induction ps with
    | nil => rfl
    | cons p r ih =>
      have h1 := hk p (List.mem_cons_self ..)
      have h2 := ih fun q hq => hk q (List.mem_cons_of_mem _ hq)
      unfold kstB at h2 ⊢
      first
        | (by_cases q : y = p.1
           · subst q; simp [h1]
           · simp [q]; exact h2)
        | simp_all
  rw [e]
  exact F

end
/-! Rules27 -/
section
/- --pure -/
theorem bytes_ne_str (a : Array UInt8) (t : Tok) (b : Str) (u : Tok) : Gives (Builtin.«bytes.__ne__» ⟨[.bytes a t, .str b u], []⟩) (.val (Value.notImplemented)) := by
  refine .of_wp fun M A E s Q hq => ?_
  show wpAny M A (isInstance (.str b u) (.type "bytes") >>= fun r => _) _ E s
  refine wpAny_bind (wpAny_isInstance (b := false) (typeIs_str s b u) PySem.F.sub_str_bytes ?_)
  show wpAny M A (rule _ >>= fun _ => ret Value.notImplemented) _ E s
  exact wpAny_bind (wpAny_rule (wpAny_pure ⟨_, rfl, hq⟩))
theorem str_ne_bytes (a : Str) (t : Tok) (b : Array UInt8) (u : Tok) : Gives (Builtin.«str.__ne__» ⟨[.str a t, .bytes b u], []⟩) (.val (Value.notImplemented)) :=
  .of_wp fun M A E s Q h => by obtain ⟨hp, g, d, tk, os⟩ := s; wp_walk; exact ⟨_, rfl, h⟩
section
variable {prog : Program} {w : World} {A : Around} {E : Value → Shared → Prop} {s : Shared}
theorem ne_bytes_str {a : Array UInt8} {t : Tok} {b : Str} {u : Tok} {Q : Value → Shared → Prop} (h : Q (.bool true) s) : wpAny (model prog w) A (compareOp .NotEq (.bytes a t) (.str b u)) Q E s := by
  show wpAny _ _ (richCompare .NotEq _ _) _ _ _
  exact PySem.SeqAt.rc_ne_decline_or (k := false) (typeIs_bytes s a t) (typeIs_str s b u) (by decide) PySem.F.sub_str_bytes FB.slot_bytes_ne PySem.F.slot_str_ne_refl
    (fun _ hq => call_gives FB.slot_bytes_ne (typeIs_bytes s a t) FB.entry_bytes_ne (FB.args_bytes_ne_2 _ _) (bytes_ne_str a t b u) hq)
    (fun _ hq => call_gives PySem.F.slot_str_ne_refl (typeIs_str s b u) PySem.F.entry_str_ne (PySem.F.args_str_ne_2 _ _) (str_ne_bytes b u a t) hq)
    (fun _ hq => wpAny_of_eq (rfl : isSame (.bytes a t) (.str b u) = pure false) hq) (.inl rfl) h
end

end
/-! LawB -/
section
/- --pure -/
noncomputable def isLaw : Stmt → Bool
  | .FunctionDef n _ _ _ _ _ _ _ _ _ => n == Str.ofString "law"
  | _ => false
noncomputable def bodyS : Stmt → List Stmt
  | .FunctionDef _ _ b _ _ _ _ _ _ _ => b
  | _ => []
noncomputable def scopeS : Stmt → Scope
  | .FunctionDef _ _ _ _ _ _ sc _ _ _ => sc
  | _ => { kind := .function, names := [], isGenerator := false, isCoroutine := false }
noncomputable def findS : List Stmt → List Stmt
  | [] => []
  | s :: r => if isLaw s then [s] else findS r
noncomputable def headB (l : List Stmt) : List Stmt := match l with | s :: _ => bodyS s | [] => []
noncomputable def headSc (l : List Stmt) : Scope := match l with | s :: _ => scopeS s | [] => { kind := .function, names := [], isGenerator := false, isCoroutine := false }
noncomputable def lawBody : List Stmt := headB (findS hd.view_39.main.body)
noncomputable def lawSc : Scope := headSc (findS hd.view_39.main.body)
noncomputable def forB : List Stmt → List Stmt
  | (.For _ _ b _ _) :: _ => b
  | _ => []
noncomputable def forT : List Stmt → PySem.Expr
  | (.For t _ _ _ _) :: _ => t
  | _ => .Constant .none 0 default

end
/-! LawC -/
section
local macro_rules | `(tactic| walk_at $s:str) => `(tactic| k_extra $s)
theorem draw_specJ (l : Addr) (vs : List Value) (ns : List Int) (j : Int) (t : Tok) (h0 : 0 ≤ j) (h64 : j < 64) (hI : IntsAre vs ns) (hl : ns.length < 64) :
    Spec 87 1 8 [.ref l, .int j t] [] (fun h => h.IsList l vs.toArray) (PInt (draw ns j.toNat)) := draw_specI l vs ns j.toNat j t (by omega) hI hl (by omega)
section
variable {prog : Program} {w : World} {mean : ExcName → Option Value} {mg mb : Str → Option Value} {A : Around} {env : Env} {outer : List Env} {A₀ : Around} {base h₀ : Heap} {L : Addr} {m : Str → Option Value} {s : Shared} {Q E : Value → Shared → Prop} {news : List (Addr × Obj)}
  {f : Addr} {n u : Nat} {vs : List Value} {kw : List (Str × Value)} {Pre : Heap → Prop}
theorem use_one {cs : List Int} (H : Spec f n u vs kw Pre (POne cs)) (B : Below A₀ base outer h₀) (F : Fr h₀ L s.heap m) (X : (hd.heap_39 w.params).In h₀) (T : TT mean mg mb h₀) (N : News h₀ L s.heap news)
    (hh : A.handled = none) (hA : A.frames = some (env :: outer)) (hf : env.frame = some L) (hke : env.scope.kind = .function) (hd : A.depth + n < recursionLimit) (hu : A.units + u < cLine) (hpre : Pre s.heap)
    (k : ∀ b t h' tk', OneOk cs (KBw.bInts b) → Fr h₀ L h' m → News h₀ L h' news → Q (.bytes b t) { s with heap := h', toks := tk' }) : wpAny (model prog w) A (call (.ref f) vs kw) Q E s :=
  H _ _ _ _ _ _ _ _ _ _ _ _ _ _ _ _ B F X T hh hA hf hke hd hu hpre fun _ h' tk' st ⟨b, t, e, hb⟩ => e ▸ k b t h' tk' hb (fr_stays F st) (news_stays N st)
end
/-- what the law has made by the time it copies -/
structure LawAt (G : Heap) (L : Addr) (cs oc wt ns : List Int) (S M H : Int) (f c' DP lS : Addr) (bS bG bO bH bW : Array UInt8) (vS : List Value) (oc' oP o1 o2 o3 o4 o5 o6 : Obj) (vc : Array Value) (qual : Str) (tq tm ta th tS : Tok) (kd : Int) : Prop where
  ok : SignsOk cs
  hS : KBw.bInts bS = cs
  hG : KBw.bInts bG = cs
  hO : KBw.bInts bO = oc
  hH : KBw.bInts bH = oc ++ sumF S M H oc
  hW : KBw.bInts bW = wt
  wt : wt = textF cs (oc ++ sumF S M H oc)
  ocl : oc.length ≤ 5
  ocI : KBa.In oc
  nl : ns.length < 64
  nI : IntsAre vS ns
  nL : G.IsList lS vS.toArray
  tP : TabO oP (tabAt cs cs.length) cs.length
  m1 : 1 ≤ M
  m2 : M ≤ 65521
  s0 : 0 ≤ S
  s1 : S < 65521
  sh : H = 0 ∨ H = 41
  d : oc'.data = .fields vc
  v : vc[1]? = some (.str qual tq)
  c1 : o1.data = .cell (some (.ref lS))
  c2 : o2.data = .cell (some (.bytes bS tS))
  c3 : o3.data = .cell (some (.ref DP))
  c4 : o4.data = .cell (some (.int M tm))
  c5 : o5.data = .cell (some (.int S ta))
  c6 : o6.data = .cell (some (.int H th))
  k0 : kd = 0 → cs = bitcoinL

end
/-! F22 -/
section
local macro_rules | `(tactic| walk_at $s:str) => `(tactic| k_extra $s)
/-- a text of the loop -/
noncomputable def TextOk (S M H : Int) (cs x : List Int) (f : Bool) : Prop := x.length ≤ 62 ∧ dcheckF S M H f cs x = wantF S M H cs x
theorem valB_len {rk : List Int} {n : Nat} (hn : n ≤ 60) (hl : rk.length ≤ 62) (h : ∀ z ∈ rk, 0 ≤ z ∧ z < (n : Int)) : (digs 256 (val n rk)).length ≤ 384 := by
  rcases Nat.eq_zero_or_pos n with h0 | h0
  · have : rk = [] := by
      cases rk with
      | nil => rfl
      | cons a r => have := h a (List.mem_cons_self ..); omega
    rw [this, show val (n : Int) [] = 0 from rfl, digs_zero (by omega)]
    decide
  · refine digs_len (by decide) 384 _ (Int.lt_of_lt_of_le (val_lt (old := n) (by omega) rk h) ?_)
    have h1 : n ^ rk.length ≤ 64 ^ rk.length := Nat.pow_le_pow_left (by omega) _
    have h2 : (64 : Nat) ^ rk.length = 2 ^ (6 * rk.length) := by rw [Nat.pow_mul]
    have h3 : (2 : Nat) ^ (6 * rk.length) ≤ 2 ^ 384 := Nat.pow_le_pow_right (by decide) (by omega)
    have h4 : n ^ rk.length ≤ 2 ^ 384 := Nat.le_trans h1 (h2 ▸ h3)
    exact_mod_cast h4
theorem want_none {S M H : Int} {cs x rk td : List Int} (h : (rk = ranksF cs x ∧ rk.length ≠ x.length) ∨ (td = toldF cs x ∧ ¬ 4 ≤ td.length) ∨ (td = toldF cs x ∧ sumF S M H (cut4 td) ≠ td.drop (td.length - 4))) : wantF S M H cs x = none := by
  unfold wantF
  rw [if_neg]
  rintro ⟨a, b, c⟩
  rcases h with ⟨rfl, h⟩ | ⟨rfl, h⟩ | ⟨rfl, h⟩
  · exact h a
  · exact h b
  · exact h c
theorem eq_of_beq2 {a b : Array UInt8} (h : (a.toList == b.toList) = true) : KBw.bInts a = KBw.bInts b := by
  have : a.toList = b.toList := by simpa using h
  unfold KBw.bInts
  rw [this]
theorem ne_of_beq2 {a b : Array UInt8} (h : (a.toList == b.toList) = false) : KBw.bInts a ≠ KBw.bInts b := by
  intro e
  have := bInts_inj e
  rw [this] at h
  simp at h
theorem want_ne {S M H : Int} {td : List Int} {a b : Array UInt8} (h : KBw.bInts a ≠ KBw.bInts b) (ka : KBw.bInts a = List.take (clipAt (mixF S M H (mixF S M H (List.take (clipAt td.length (-4)) td))).length 4) (mixF S M H (mixF S M H (List.take (clipAt td.length (-4)) td))))
    (kb : KBw.bInts b = List.take (td.length - clipAt td.length (-4)) (List.drop (clipAt td.length (-4)) td)) : sumF S M H (cut4 td) ≠ td.drop (td.length - 4) := by
  rw [ka, kb, cut_eq, clip4] at h
  exact h
theorem want_some {S M H : Int} {cs x rk td : List Int} {a b : Array UInt8} (hr : rk = ranksF cs x) (ht : td = toldF cs x) (h1 : rk.length = x.length) (h2 : 4 ≤ td.length) (h : KBw.bInts a = KBw.bInts b) (ka : KBw.bInts a = List.take (clipAt (mixF S M H (mixF S M H (List.take (clipAt td.length (-4)) td))).length 4) (mixF S M H (mixF S M H (List.take (clipAt td.length (-4)) td))))
    (kb : KBw.bInts b = List.take (td.length - clipAt td.length (-4)) (List.drop (clipAt td.length (-4)) td)) : wantF S M H cs x = some (cut4 td) := by
  rw [ka, kb, cut_eq, clip4] at h
  subst hr ht
  unfold wantF
  rw [if_pos ⟨h1, h2, h⟩]
set_option maxHeartbeats 1500000 in
theorem lawTurn (prog : Program) (w : World) (mean : ExcName → Option Value) (mg mb : Str → Option Value) (G : Heap) (L fa f c' DP lS I aT : Addr) (body : List Stmt) (tgt : PySem.Expr) (sc : Scope) (s : Shared) (u : Str → Option Value) (Q : Flow → Shared → Prop) (Q1 : Value → Shared → Prop) (E1 : Value → Shared → Prop)
    (cs oc wt ns x : List Int) (S M H kd : Int) (bS bG bO bH bW bX : Array UInt8) (vS : List Value) (oc' oP o1 o2 o3 o4 o5 o6 oI : Obj) (vc : Array Value) (qual : Str) (tq tm ta th tS t1 t2 tX : Tok) (pm ctv : Value) (p0 p1 p2 p3 p4 p5 p6 : Pos) (fx : Bool) (rest : List (Addr × Obj))
    (hb : body = forB (List.drop 17 lawBody)) (ht : tgt = forT (List.drop 17 lawBody)) (hsc : sc = lawSc) (K : Below callerA G [] G) (X : (hd.heap_39 w.params).In G) (T : TT mean mg mb G)
    (D : LawAt G L cs oc wt ns S M H f c' DP lS bS bG bO bH bW vS oc' oP o1 o2 o3 o4 o5 o6 vc qual tq tm ta th tS kd) (hX : KBw.bInts bX = x) (hT : TextOk S M H cs x fx)
    (F : Fr G L s.heap (kstB u [(Str.ofString "given", .bytes bG t1), (Str.ofString "base", .int cs.length t2), (Str.ofString "mixed", .ref f)]))
    (N : News G L s.heap ((I, oI) :: (aT, { cls := .type "tuple", data := .seq #[.bytes bX tX, .bool fx] }) :: (f, kla_obj (Str.ofString "<lambda>") qual (lamArgs p0) (lamBody p1 p2 p3 p4 p5 p6) lamScope [(Str.ofString "shift", L + 1 + 1 + 1 + 1 + 1 + 1), (Str.ofString "salt", L + 1 + 1 + 1 + 1 + 1), (Str.ofString "modulus", L + 1 + 1 + 1 + 1)] pm c' ctv) :: (c', oc') :: (DP, oP) ::
      (L + 1 + 1 + 1 + 1 + 1 + 1, o6) :: (L + 1 + 1 + 1 + 1 + 1, o5) :: (L + 1 + 1 + 1 + 1, o4) :: (L + 1 + 1 + 1, o3) :: (L + 1 + 1, o2) :: (L + 1, o1) :: rest))
    (hQ : ∀ h' tk' m', Fr G L h' m' → m' (Str.ofString "given") = some (.bytes bG t1) → m' (Str.ofString "base") = some (.int cs.length t2) → m' (Str.ofString "mixed") = some (.ref f) → (∀ z, z ≠ Str.ofString "one" → z ≠ Str.ofString "fix" → z ≠ Str.ofString "got" → z ≠ Str.ofString "ranks" → z ≠ Str.ofString "told" → m' z = kstB u [(Str.ofString "given", .bytes bG t1), (Str.ofString "base", .int cs.length t2), (Str.ofString "mixed", .ref f)] z) → News G L h' ((I, oI) :: rest) → Q .next { s with heap := h', toks := tk' }) :
    wpAny (model prog w) (callerA.deeper (envOfC (Str.ofString "law") sc L fa (.ref 130))) (assign tgt (envOfC (Str.ofString "law") sc L fa (.ref 130)) (.ref aT)) (fun _ s₂ => wpAny (model prog w) (callerA.deeper (envOfC (Str.ofString "law") sc L fa (.ref 130))) (execs body (envOfC (Str.ofString "law") sc L fa (.ref 130))) Q
      (fun e s' => wpAny (model prog w) (callerA.deeper (envOfC (Str.ofString "law") sc L fa (.ref 130))) (leaving (envOfC (Str.ofString "law") sc L fa (.ref 130)) e) (fun _ s'' => Q1 e s'') E1 s') s₂)
      (fun e s' => wpAny (model prog w) (callerA.deeper (envOfC (Str.ofString "law") sc L fa (.ref 130))) (leaving (envOfC (Str.ofString "law") sc L fa (.ref 130)) e) (fun _ s'' => Q1 e s'') E1 s') s := by
  conv at hb => rhs; whnf
  conv at ht => rhs; whnf
  conv at hsc => rhs; whnf
  dsimp only at hsc
  subst hb ht hsc
  obtain ⟨ok, hS, hG, hO, hH, hW, hwt, hocl, hocI, hnl, hnI, hnL, hP, hM1, hM2, hS0, hS1, hH5, hd1, hd2, e1, e2, e3, e4, e5, e6, hk0⟩ := D
  have hcl := ok.lo
  have hcu := ok.hi
  have hsp : 32 ∉ cs := fun q => by have := ok.mem 32 q; omega
  obtain ⟨hxl, hxd⟩ := hT
  k_with_none
  k_with "exec Try" => refine Stop.out ?_
  k_steps
  refine Stop.mk ?_
  rename Fr _ _ _ _ => FF
  rename News _ _ _ _ => NN
  refine cutS (fun v => (∃ y b t, dcheckF S M H fx cs x = some y ∧ v = .bytes b t ∧ KBw.bInts b = y) ∨ (dcheckF S M H fx cs x = none ∧ ∃ t, v = .str (Str.ofString "refused") t)) (Str.ofString "got") FF NN ?zA ?zB
  case zA =>
    k_with_none
    have DKL : DeepOK w mean mg mb G [] G := ⟨X, T, fun b hm => nomatch hm⟩
    k_with "call ref" => first
      | (k_dflt (rename News _ _ _ _ => NM; rename Fr _ _ _ _ => FM; refine use_bytesM (dcheck_spec _ _ _ x cs _ _ true S M H hX hG (by omega) (by omega) (by omega) hsp hM1 hM2 hS0 hS1 hH5) (by k_asm) (by k_asm) (by k_asm) (by k_asm) (by k_asm) rfl rfl rfl rfl (by ktr_room) (by ktr_units) DKL (mixAt_of NM (by k_mem) (by k_mem) (by assumption) (by assumption) (by k_mem) (by assumption) (by k_mem) (by assumption) (by k_mem) (by assumption)) ?_ ?_; intro yD bD tD hD tkD eD kD FD ND; rotate_left; intro eR xR hR tkR RR uR; rotate_left))
      | (k_dflt (rename News _ _ _ _ => NM; rename Fr _ _ _ _ => FM; refine use_bytesM (dcheck_spec2 _ _ _ x cs _ _ S M H hX hG (by omega) (by omega) (by omega) hsp hM1 hM2 hS0 hS1 hH5) (by k_asm) (by k_asm) (by k_asm) (by k_asm) (by k_asm) rfl rfl rfl rfl (by ktr_room) (by ktr_units) DKL (mixAt_of NM (by k_mem) (by k_mem) (by assumption) (by assumption) (by k_mem) (by assumption) (by k_mem) (by assumption) (by k_mem) (by assumption)) ?_ ?_; intro yD bD tD hD tkD eD kD FD ND; rotate_left; intro eR xR hR tkR RR uR; rotate_left))
    cases fx with
    | true =>
      refine wpAny_Try_except ?_
      k_steps
      · exact ⟨rfl, _, _, _, .inl ⟨_, _, _, eD, rfl, kD⟩, rfl, by assumption, by assumption⟩
      · k_dflt (refine caught_C (T' := "ValueError") (Around.frames_deeper K.stack) FM uR (raisedN_news RR rfl NM) X T (by k_is) PyProof.Rows.Boot.«ValueError» (by decide +kernel) PySem.F.isExc_ValueError PySem.F.notTuple_ValueError (by rw [isSubtype_type]; kernel_rfl) ?_ (by passes_own))
        intro hC FC NC
        k_steps
        exact ⟨rfl, _, _, _, .inr ⟨eR, _, rfl⟩, rfl, by assumption, by assumption⟩
    | false =>
      refine wpAny_Try_except ?_
      k_steps
      · exact ⟨rfl, _, _, _, .inl ⟨_, _, _, eD, rfl, kD⟩, rfl, by assumption, by assumption⟩
      · k_dflt (refine caught_C (T' := "ValueError") (Around.frames_deeper K.stack) FM uR (raisedN_news RR rfl NM) X T (by k_is) PyProof.Rows.Boot.«ValueError» (by decide +kernel) PySem.F.isExc_ValueError PySem.F.notTuple_ValueError (by rw [isSubtype_type]; kernel_rfl) ?_ (by passes_own))
        intro hC FC NC
        k_steps
        exact ⟨rfl, _, _, _, .inr ⟨eR, _, rfl⟩, rfl, by assumption, by assumption⟩
  case zB =>
    clear FF NN
    intro v hV tkV pv FV NV
    obtain ⟨rk, hrk⟩ : ∃ l, l = ranksF cs x := ⟨_, rfl⟩
    have hrkl : rk.length ≤ x.length := by rw [hrk, ranksF, List.length_map]; exact List.length_filter_le _ _
    have hrkI : ∀ z ∈ rk, 0 ≤ z ∧ z < (cs.length : Int) := by
      intro z hz
      rw [hrk] at hz
      obtain ⟨y, hy, rfl⟩ := List.mem_map.mp hz
      have h2 := (List.mem_filter.mp hy).2
      cases e : tabAt cs cs.length y with
      | none => rw [e] at h2; cases h2
      | some d => rw [rank_of e]; exact tabAt_in cs _ y d e
    obtain ⟨td, htd⟩ : ∃ l, l = toldF cs x := ⟨_, rfl⟩
    k_with "exec Assign cons ListComp" => refine Stop.out ?_
    k_with "compareOp In int ref" => (k_dflt (refine in_tab (by k_asm) (by k_memK) hP ?_))
    k_steps
    refine Stop.mk ?_
    rename Fr _ _ _ _ => FC
    rename News _ _ _ _ => NC
    (k_dflt (refine comp_bytesA (b := bX) (ks := x) (fun k => (tabAt cs cs.length k).isSome) (rankF cs) FC NC rfl rfl hX (by omega) (by with_unfolding_all rfl) (by with_unfolding_all rfl) (by decide) (by rfl) (by decide) (by rfl) (by rfl) (by rfl) (by k_steps) (fun _ => rfl) (fun k C h hk hit tk E' => by (obtain ⟨t, I, oI, oC, D, ys, m₂, hC, hx, F1, N1⟩ := hit); k_steps) ?zE ?zC))
    case zE =>
      intro k C h hk hqk hit tk E'
      obtain ⟨t, I, oI, oC, D, ys, m₂, hC, hx, F1, N1⟩ := hit
      obtain ⟨d, hd⟩ := Option.isSome_iff_exists.mp hqk
      rw [rank_of hd]
      k_with "subscriptTail" => (k_dflt (refine item_tab (by k_asm) (by k_memK) hP hd ?_; intro tI))
      k_with "subscriptTail Name Name ref int" => (k_dflt (refine item_tab (by k_asm) (by k_memK) hP hd ?_; intro tI))
      k_steps
    case zC =>
      intro DL ysL hL tkL FL NL offL iL
      have iL2 : IntsAre ysL rk := by rw [hrk]; exact iL
      have lenL := iL2.length
      have hnzl := nz_le rk
      have hdl := valB_len (by omega) (by omega) hrkI
      have tdeq : td = List.replicate (nz rk) 0 ++ (digs 256 (val cs.length rk)).reverse := by rw [htd, toldF, ← hrk]
      have tdI : KBa.In (List.replicate (nz rk) 0 ++ (digs 256 (val cs.length rk)).reverse) := by
        intro z hz
        rcases List.mem_append.mp hz with h | h
        · rw [(List.mem_replicate.mp h).2]; decide
        · exact digs_in (b := 256) _ _ (Nat.le_refl _) z (List.mem_reverse.mp h)
      have tdl : (List.replicate (nz rk) 0 ++ (digs 256 (val cs.length rk)).reverse).length ≤ 1000 := by
        rw [List.length_append, List.length_replicate, List.length_reverse]
        omega
      have tdl2 : td.length ≤ 1000 := by rw [tdeq]; exact tdl
      have hm2 : (mixF S M H (mixF S M H (List.take (clipAt td.length (-4)) td))).length = 6 := rfl
      have hm4 : clipAt (mixF S M H (mixF S M H (List.take (clipAt td.length (-4)) td))).length 4 = 4 := rfl
      simp only [List.forall_mem_cons] at offL
      have hI0 : ∀ vs, IntsAre vs rk → vs.length ≤ 62 := fun vs h => by rw [h.length]; omega
      k_with "call ref" => first
        | (k_dflt (refine use_int (noughts_list _ _ rk iL2 (by omega)) (by k_asm) (by k_asm) (by k_asm) (by k_asm) (by k_asm) rfl rfl rfl rfl (by ktr_room) (by ktr_units) (by is_list) ?_; intro tU hU tkU FU NU))
        | (k_dflt (refine use_list (carried_list _ _ rk _ _ _ _ iL2 (by omega) hrkI (by omega) (by omega) (by decide) (by decide)) (by k_asm) (by k_asm) (by k_asm) (by k_asm) (by k_asm) rfl rfl rfl rfl (by ktr_room) (by ktr_units) (by is_list) ?_; intro lU cU vsU hU tkU neU iU FU NU))
        | (k_dflt (rename News _ _ _ _ => NM; refine use_bytes (mix_spec _ _ _ _ S M H (by assumption) (by first | (rw [List.length_take]; omega) | (rw [mixF_len]; decide)) hM1 hM2 hS0 hS1 hH5) (by k_asm) (by k_asm) (by k_asm) (by k_asm) (by k_asm) rfl rfl rfl rfl (by ktr_room) (by ktr_units) (mixAt_of NM (by k_mem) (by k_mem) (by assumption) (by assumption) (by k_mem) (by assumption) (by k_mem) (by assumption) (by k_mem) (by assumption)) ?_; intro bU tU hU tkU kU FU NU))
      k_with "binaryOp Mult ref int" => (k_dflt (refine mul_one (by k_asm) (by k_asm) (by k_memK) (by omega) ?_; intro DM vsM hM FM NM lM iM lenM; (try k_lt lM)))
      k_with "call type:bytes" => (k_dflt (refine KBa.make_K (by k_asm) (by k_asm) rfl (by kba_isList) (by assumption) tdI (by omega) ?_; intro hB tB kB FB NB _; have kO := (KBa.ints_make tdI).trans tdeq.symm))
      k_with "call builtin:len" => (k_dflt (refine kst_len (by assumption) (by k_memK) lenL (by omega) ?_))
      k_steps
      k_with "callWith ref" => (k_dflt (refine callWith_F (FnAt.of (by k_asm) (by k_mem)) ?_))
      k_with "compareOp NotEq bytes str" => (k_dflt (refine ne_bytes_str ?_))
      rotate_left
      · have hw : wantF S M H cs x = none := want_none (rk := rk) (.inr (.inl ⟨htd, by omega⟩))
        rw [hw] at hxd
        rcases pv with ⟨y, b, t, ey, rfl, hby⟩ | ⟨ey, t, rfl⟩
        · rw [hxd] at ey; cases ey
        · k_steps
          (repeat (first | (k_unfold; try dsimp only) | dsimp only))
          exact hQ _ _ _ (by assumption) rfl rfl rfl (fun z z1 z2 z3 z4 z5 => by simp [z1, z2, z3, z4, z5]) (fun p hp => by (rename News _ _ _ _ => NZ); exact NZ p (by rcases List.mem_cons.mp hp with rfl | hp <;> simp [*]))
      · have hw : wantF S M H cs x = none := want_none (td := td) (.inl ⟨hrk, by omega⟩)
        rw [hw] at hxd
        rcases pv with ⟨y, b, t, ey, rfl, hby⟩ | ⟨ey, t, rfl⟩
        · rw [hxd] at ey; cases ey
        · k_steps
          (repeat (first | (k_unfold; try dsimp only) | dsimp only))
          exact hQ _ _ _ (by assumption) rfl rfl rfl (fun z z1 z2 z3 z4 z5 => by simp [z1, z2, z3, z4, z5]) (fun p hp => by (rename News _ _ _ _ => NZ); exact NZ p (by rcases List.mem_cons.mp hp with rfl | hp <;> simp [*]))
      dsimp only
      k_steps
      · rename ((_ == _) = true) => heq
        rename KBw.bInts (KBy.picked _ none (some 4)) = _ => k4
        rename KBw.bInts (KBy.picked _ (some (-4)) none) = _ => k5
        rename KBw.bInts (KBy.picked _ none (some (-4))) = _ => k6
        have hw : wantF S M H cs x = some (cut4 td) := want_some hrk htd (by omega) (by omega) (eq_of_beq2 heq) k4 k5
        rw [hw] at hxd
        rcases pv with ⟨y, b, t, ey, rfl, hby⟩ | ⟨ey, t, rfl⟩
        · rw [hxd] at ey
          have ey2 : cut4 td = y := Option.some.inj ey
          have e6 : KBw.bInts b = KBw.bInts (KBy.picked (byteArr (List.replicate (nz rk) 0 ++ (digs 256 (val (↑cs.length) rk)).reverse)) none (some (-4))) := by rw [hby, ← ey2, k6, clip4]; rfl
          have e7 := bInts_inj e6
          k_steps
          · rename ((_ != _) = true) => hne
            exact absurd e6 (ne_of_bne hne)
          · (repeat (first | (k_unfold; try dsimp only) | dsimp only))
            exact hQ _ _ _ (by assumption) rfl rfl rfl (fun z z1 z2 z3 z4 z5 => by simp [z1, z2, z3, z4, z5]) (fun p hp => by (rename News _ _ _ _ => NZ); exact NZ p (by rcases List.mem_cons.mp hp with rfl | hp <;> simp [*]))
        · rw [hxd] at ey; cases ey
      · rename ((_ == _) = false) => heq
        rename KBw.bInts (KBy.picked _ none (some 4)) = _ => k4
        rename KBw.bInts (KBy.picked _ (some (-4)) none) = _ => k5
        have hw : wantF S M H cs x = none := want_none (rk := rk) (.inr (.inr ⟨htd, want_ne (ne_of_beq2 heq) k4 k5⟩))
        rw [hw] at hxd
        rcases pv with ⟨y, b, t, ey, rfl, hby⟩ | ⟨ey, t, rfl⟩
        · rw [hxd] at ey; cases ey
        · k_steps
          (repeat (first | (k_unfold; try dsimp only) | dsimp only))
          exact hQ _ _ _ (by assumption) rfl rfl rfl (fun z z1 z2 z3 z4 z5 => by simp [z1, z2, z3, z4, z5]) (fun p hp => by (rename News _ _ _ _ => NZ); exact NZ p (by rcases List.mem_cons.mp hp with rfl | hp <;> simp [*]))

end
/-! F23 -/
section
local macro_rules | `(tactic| walk_at $s:str) => `(tactic| k_extra $s)
theorem fm4 (x : Int) : 0 ≤ x.fmod 4 ∧ x.fmod 4 < ((4 : Nat) : Int) := ⟨Int.fmod_nonneg_of_pos _ (by decide), Int.fmod_lt_of_pos _ (by decide)⟩
theorem white_ok {t1 t2 t3 t4 : Tok} : ∀ x ∈ (#[Value.bytes #[10] t1, .bytes #[32] t2, .bytes #[13, 10] t3, .bytes #[9] t4] : Array Value).toList, ∃ b t, x = .bytes b t ∧ (∀ y ∈ KBw.bInts b, white y = true) ∧ (KBw.bInts b).length ≤ 2 := by
  intro x hx
  simp at hx
  rcases hx with rfl | rfl | rfl | rfl <;> exact ⟨_, _, rfl, by decide, by decide⟩
set_option maxHeartbeats 1500000 in
theorem lawD (prog : Program) (w : World) (mean : ExcName → Option Value) (mg mb : Str → Option Value) (G : Heap) (L fa f c' DP lS : Addr) (body : List Stmt) (sc : Scope) (s : Shared) (u : Str → Option Value) (Q : Flow → Shared → Prop) (Q1 : Value → Shared → Prop) (E1 : Value → Shared → Prop)
    (cs oc wt ns : List Int) (S M H kd o : Int) (bS bG bO bH bW bR : Array UInt8) (vS : List Value) (oc' oP o1 o2 o3 o4 o5 o6 : Obj) (vc : Array Value) (qual : Str) (tq tm ta th tS t1 t2 t3 t4 t5 t6 : Tok) (pm ctv : Value) (p0 p1 p2 p3 p4 p5 p6 : Pos) (tps : Array Value)
    (hb : body = List.drop 18 lawBody) (hsc : sc = lawSc) (K : Below callerA G [] G) (X : (hd.heap_39 w.params).In G) (T : TT mean mg mb G)
    (D : LawAt G L cs oc wt ns S M H f c' DP lS bS bG bO bH bW vS oc' oP o1 o2 o3 o4 o5 o6 vc qual tq tm ta th tS kd) (hR : KBw.bInts bR = (copied cs o wt).2)
    (F : Fr G L s.heap (kstB u [(Str.ofString "given", .bytes bG t1), (Str.ofString "base", .int cs.length t2), (Str.ofString "mixed", .ref f), (Str.ofString "octets", .bytes bO t3), (Str.ofString "wanted", .bytes bW t4), (Str.ofString "retold", .bytes bR t5), (Str.ofString "kind", .int kd t6)]))
    (N : News G L s.heap [(f, kla_obj (Str.ofString "<lambda>") qual (lamArgs p0) (lamBody p1 p2 p3 p4 p5 p6) lamScope [(Str.ofString "shift", L + 1 + 1 + 1 + 1 + 1 + 1), (Str.ofString "salt", L + 1 + 1 + 1 + 1 + 1), (Str.ofString "modulus", L + 1 + 1 + 1 + 1)] pm c' ctv), (c', oc'), (DP, oP),
      (L + 1 + 1 + 1 + 1 + 1 + 1, o6), (L + 1 + 1 + 1 + 1 + 1, o5), (L + 1 + 1 + 1 + 1, o4), (L + 1 + 1 + 1, o3), (L + 1 + 1, o2), (L + 1, o1), (128, tabObj tps)])
    (hQ : ∀ h' tk' m', Fr G L h' m' → GrownAt 128 h' → Q (.ret (.bool true)) { s with heap := h', toks := tk' }) :
    wpAny (model prog w) (callerA.deeper (envOfC (Str.ofString "law") sc L fa (.ref 130))) (execs body (envOfC (Str.ofString "law") sc L fa (.ref 130))) Q
      (fun e s' => wpAny (model prog w) (callerA.deeper (envOfC (Str.ofString "law") sc L fa (.ref 130))) (leaving (envOfC (Str.ofString "law") sc L fa (.ref 130)) e) (fun _ s'' => Q1 e s'') E1 s') s := by
  conv at hb => rhs; whnf
  conv at hsc => rhs; whnf
  dsimp only at hsc
  subst hb hsc
  obtain ⟨ok, hS, hG, hO, hH, hW, hwt, hocl, hocI, hnl, hnI, hnL, hP, hM1, hM2, hS0, hS1, hH5, hd1, hd2, e1, e2, e3, e4, e5, e6, hk0⟩ := D
  have hcl := ok.lo
  have hcu := ok.hi
  have hsp : 32 ∉ cs := fun q => by have := ok.mem 32 q; omega
  have hoc9l : (oc ++ sumF S M H oc).length = oc.length + 4 := by rw [List.length_append, sumF_len]
  have hoc9I : ∀ x ∈ oc ++ sumF S M H oc, 0 ≤ x ∧ x < 256 := fun x hx => (List.mem_append.mp hx).elim (hocI x) (sumF_in _ _ _ _ x)
  have hwtl : wt.length ≤ 27 := by
    have := textF_len3 (cs := cs) (by omega) hoc9I
    rw [← hwt] at this
    omega
  have hwtI : ∀ y ∈ wt, y ∈ cs := by rw [hwt]; exact textF_mem (by omega)
  have hrl : (copied cs o wt).2.length = wt.length := copied_len cs o wt
  have rW : rstripL wt = wt := by rw [hwt]; exact rstrip_text ok
  have rR : rstripL (copied cs o wt).2 = (copied cs o wt).2 := rstrip_retold ok hwtI
  have fW : ∀ B : List Int, (∀ y ∈ B, white y = true) → dcheckF S M H false cs (wt ++ B) = some oc := fun B hB => by rw [dcheck_behind rW hB, hwt]; exact plain_text ok hocI
  have fR : ∀ B : List Int, (∀ y ∈ B, white y = true) → dcheckF S M H true cs ((copied cs o wt).2 ++ B) = some oc := fun B hB => by rw [dcheck_behind rR hB, hwt]; exact retold_fixed ok hocI
  have DKL : DeepOK w mean mg mb G [] G := ⟨X, T, fun b hm => nomatch hm⟩
  k_with_none
  k_with "subscriptTail" => ((with_reducible show wpAny _ _ (subscriptTail (Expr.Tuple _ _ _) _ _ _) _ _ _); k_dflt (refine item_tupP (value := .Tuple _ _ _) (fun x => ∃ b t, x = .bytes b t ∧ (∀ y ∈ KBw.bInts b, white y = true) ∧ (KBw.bInts b).length ≤ 2) (by k_asm) (List.Mem.head _) 4 rfl (fm4 _).1 (fm4 _).2 (by decide) white_ok ?_; rintro _ ⟨bB, tB, rfl, hB1, hB2⟩; obtain ⟨wB, hwB⟩ : ∃ l, KBw.bInts bB = l := ⟨_, rfl⟩; rw [hwB] at hB1 hB2))
  k_with "call ref" => first
    | (k_dflt (refine use_int (draw_specJ _ _ _ _ _ (by decide) (by decide) hnI hnl) (by k_asm) (by k_asm) (by k_asm) (by k_asm) (by k_asm) rfl rfl rfl rfl (by ktr_room) (by ktr_units) (by is_list) ?_; intro tU hU tkU FU NU))
    | (k_dflt (rename News _ _ _ _ => NM; refine use_bytesM (dcheck_spec _ _ _ _ cs _ _ true S M H (by assumption) hG (by rw [List.length_append]; omega) (by omega) (by omega) hsp hM1 hM2 hS0 hS1 hH5) (by k_asm) (by k_asm) (by k_asm) (by k_asm) (by k_asm) rfl rfl rfl rfl (by ktr_room) (by ktr_units) DKL (mixAt_of NM (by k_mem) (by k_mem) (by assumption) (by assumption) (by k_mem) (by assumption) (by k_mem) (by assumption) (by k_mem) (by assumption)) ?_ ?_; intro yD bD tD hD tkD eD kD FD ND; rotate_left; (intro eR; exact absurd ((fR _ hB1).symm.trans eR) (by simp)); have eO := (Option.some.inj ((fR _ hB1).symm.trans eD)); have kDO := bInts_inj (kD.trans (eO.symm.trans hO.symm)); subst kDO))
    | (k_dflt (rename News _ _ _ _ => NM; refine use_bytesM (dcheck_spec2 _ _ _ _ cs _ _ S M H (by assumption) hG (by rw [List.length_append]; omega) (by omega) (by omega) hsp hM1 hM2 hS0 hS1 hH5) (by k_asm) (by k_asm) (by k_asm) (by k_asm) (by k_asm) rfl rfl rfl rfl (by ktr_room) (by ktr_units) DKL (mixAt_of NM (by k_mem) (by k_mem) (by assumption) (by assumption) (by k_mem) (by assumption) (by k_mem) (by assumption) (by k_mem) (by assumption)) ?_ ?_; intro yD bD tD hD tkD eD kD FD ND; rotate_left; (intro eR; exact absurd ((fW _ hB1).symm.trans eR) (by simp)); have eO := (Option.some.inj ((fW _ hB1).symm.trans eD)); have kDO := bInts_inj (kD.trans (eO.symm.trans hO.symm)); subst kDO))
    | (k_dflt (rename News _ _ _ _ => NM; obtain rfl := hk0 (by assumption); refine use_bytesM (dcheck_spec3 _ _ _ _ true S M H (by assumption) (by rw [List.length_append]; omega) hM1 hM2 hS0 hS1 hH5) (by k_asm) (by k_asm) (by k_asm) (by k_asm) (by k_asm) rfl rfl rfl rfl (by ktr_room) (by ktr_units) DKL (mixAt_of NM (by k_mem) (by k_mem) (by assumption) (by assumption) (by k_mem) (by assumption) (by k_mem) (by assumption) (by k_mem) (by assumption)) ?_ ?_; intro yD bD tD hD tkD eD kD FD ND; rotate_left; (intro eR; exact absurd ((fR _ hB1).symm.trans eR) (by simp)); have eO := (Option.some.inj ((fR _ hB1).symm.trans eD)); have kDO := bInts_inj (kD.trans (eO.symm.trans hO.symm)); subst kDO))
    | (k_dflt (rename News _ _ _ _ => NM; refine use_bytesM (dcheck_spec4 _ _ _ _ S M H (by assumption) (by rw [List.length_append]; omega) hM1 hM2 hS0 hS1 hH5) (by k_asm) (by k_asm) (by k_asm) (by k_asm) (by k_asm) rfl rfl rfl rfl (by ktr_room) (by ktr_units) DKL (mixAt_of NM (by k_mem) (by k_mem) (by assumption) (by assumption) (by k_mem) (by assumption) (by k_mem) (by assumption) (by k_mem) (by assumption)) ?_ ?_; intro yD bD tD hD tkD eD kD FD ND; rotate_left; (intro eR; exact absurd ((fW _ hB1).symm.trans eR) (by simp)); have eO := (Option.some.inj ((fW _ hB1).symm.trans eD)); have kDO := bInts_inj (kD.trans (eO.symm.trans hO.symm)); subst kDO))
  k_steps
  all_goals (simp only [beq_self_eq_true]; exact hQ _ _ _ (by assumption) (GrownAt.of (ps := tps) (by assumption) (by k_mem)))

end
/-! F24 -/
section
local macro_rules | `(tactic| walk_at $s:str) => `(tactic| k_extra $s)
open PyProof.Rows
/-- a text of the list: where its pair stands, the octets, the flag -/
structure TItem where
  at_ : Addr
  b : Array UInt8
  t : Tok
  fx : Bool
abbrev TItem.obj (i : TItem) : Addr × Obj := (i.at_, { cls := .type "tuple", data := .seq #[.bytes i.b i.t, .bool i.fx] })
theorem news10 {l news : List (Addr × Obj)} {q : Addr × Obj} (h : ∀ p ∈ l, p ∈ news) (hq : q ∈ news) : ∀ p ∈ l ++ [q], p ∈ news := fun p hp => (List.mem_append.mp hp).elim (h p) fun e => by rw [List.mem_singleton.mp e]; exact hq
theorem lawItems (prog : Program) (w : World) (mean : ExcName → Option Value) (mg mb : Str → Option Value) (G : Heap) (L fa f c' DP lS lT : Addr) (body : List Stmt) (sc : Scope) (s : Shared) (u : Str → Option Value) (Q : Flow → Shared → Prop) (Q1 : Value → Shared → Prop) (E1 : Value → Shared → Prop)
    (cs oc wt ns : List Int) (S M H kd o : Int) (bS bG bO bH bW bR : Array UInt8) (vS : List Value) (oc' oP o1 o2 o3 o4 o5 o6 : Obj) (vc : Array Value) (qual : Str) (tq tm ta th tS t1 t2 t3 t4 t5 t6 : Tok) (pm ctv : Value) (p0 p1 p2 p3 p4 p5 p6 : Pos) (items : List TItem) (nT : Nat)
    (tgt : PySem.Expr) (hb : body = forB (List.drop 17 lawBody)) (ht : tgt = forT (List.drop 17 lawBody)) (hsc : sc = lawSc) (K : Below callerA G [] G) (X : (hd.heap_39 w.params).In G) (T : TT mean mg mb G)
    (D : LawAt G L cs oc wt ns S M H f c' DP lS bS bG bO bH bW vS oc' oP o1 o2 o3 o4 o5 o6 vc qual tq tm ta th tS kd)
    (core news : List (Addr × Obj)) (hcore : core = [(f, kla_obj (Str.ofString "<lambda>") qual (lamArgs p0) (lamBody p1 p2 p3 p4 p5 p6) lamScope [(Str.ofString "shift", L + 1 + 1 + 1 + 1 + 1 + 1), (Str.ofString "salt", L + 1 + 1 + 1 + 1 + 1), (Str.ofString "modulus", L + 1 + 1 + 1 + 1)] pm c' ctv), (c', oc'), (DP, oP),
      (L + 1 + 1 + 1 + 1 + 1 + 1, o6), (L + 1 + 1 + 1 + 1 + 1, o5), (L + 1 + 1 + 1 + 1, o4), (L + 1 + 1 + 1, o3), (L + 1 + 1, o2), (L + 1, o1)]) (hsub : ∀ p ∈ core, p ∈ news) (hlt : (lT, PySem.W.listOf (items.map fun i => Value.ref i.at_).toArray nT) ∈ news)
    (I : Addr) (hI : ∀ p ∈ news, p.1 < I)
    (hdone : ∀ u h tk, Fr G L h (kstB u [(Str.ofString "given", .bytes bG t1), (Str.ofString "base", .int cs.length t2), (Str.ofString "mixed", .ref f), (Str.ofString "octets", .bytes bO t3), (Str.ofString "wanted", .bytes bW t4), (Str.ofString "retold", .bytes bR t5), (Str.ofString "kind", .int kd t6), (Str.ofString "texts", .ref lT)]) → News G L h news → Q .next { s with heap := h, toks := tk }) :
    ∀ (r : List TItem), (∀ i ∈ r, i.obj ∈ news ∧ TextOk S M H cs (KBw.bInts i.b) i.fx) → ∀ u, ItemsRest prog w (callerA.deeper (envOfC (Str.ofString "law") sc L fa (.ref 130))) (fun e s' => wpAny (model prog w) (callerA.deeper (envOfC (Str.ofString "law") sc L fa (.ref 130))) (leaving (envOfC (Str.ofString "law") sc L fa (.ref 130)) e) (fun _ s'' => Q1 e s'') E1 s') G (envOfC (Str.ofString "law") sc L fa (.ref 130)) tgt body Q s [(I, "list_iterator")] [(lT, PySem.W.listOf (items.map fun i => Value.ref i.at_).toArray nT)] (r.map fun i => Itm.val (.ref i.at_)) (kstB u [(Str.ofString "given", .bytes bG t1), (Str.ofString "base", .int cs.length t2), (Str.ofString "mixed", .ref f), (Str.ofString "octets", .bytes bO t3), (Str.ofString "wanted", .bytes bW t4), (Str.ofString "retold", .bytes bR t5), (Str.ofString "kind", .int kd t6), (Str.ofString "texts", .ref lT)]) news := by
  intro r
  induction r with
  | nil => intro _ u; exact ItemsRest.zero fun h tk F N => hdone u h tk F N
  | cons i r ih =>
    intro hr u
    refine ItemsRest.val fun h tk F => ?_
    refine AllObj.cons fun oI hoI => ?_
    refine AllObj.nil fun N => ?_
    obtain ⟨hi, hok⟩ := hr i (List.mem_cons_self ..)
    have ih' := ih fun j hj => hr j (List.mem_cons_of_mem _ hj)
    have F2 : Fr G L h (kstB (kstB u [(Str.ofString "given", .bytes bG t1), (Str.ofString "base", .int cs.length t2), (Str.ofString "mixed", .ref f), (Str.ofString "octets", .bytes bO t3), (Str.ofString "wanted", .bytes bW t4), (Str.ofString "retold", .bytes bR t5), (Str.ofString "kind", .int kd t6), (Str.ofString "texts", .ref lT)]) [(Str.ofString "given", .bytes bG t1), (Str.ofString "base", .int cs.length t2), (Str.ofString "mixed", .ref f)]) := fr_kst F (by kst_all)
    refine lawTurn prog w mean mg mb G L fa f c' DP lS I i.at_ body tgt sc { s with heap := h, toks := tk } _ _ Q1 E1 cs oc wt ns (KBw.bInts i.b) S M H kd bS bG bO bH bW i.b vS oc' oP o1 o2 o3 o4 o5 o6 oI vc qual tq tm ta th tS t1 t2 i.t pm ctv p0 p1 p2 p3 p4 p5 p6 i.fx news hb ht hsc K X T D rfl hok F2 ?_ ?_
    · intro p hp
      rcases List.mem_cons.mp hp with rfl | hp
      · exact N _ (List.mem_cons_self ..)
      · rcases List.mem_cons.mp hp with rfl | hp
        · exact N _ (List.mem_cons_of_mem _ hi)
        · have hp2 : p ∈ core ++ news := by rw [hcore]; exact hp
          rcases List.mem_append.mp hp2 with hp | hp
          · exact N _ (List.mem_cons_of_mem _ (hsub p hp))
          · exact N _ (List.mem_cons_of_mem _ hp)
    · intro h' tk' m' F' g1 g2 g3 gz N'
      show UnrEndW _ _ _ _ _ _
      have z : ∀ x, x ≠ Str.ofString "one" → x ≠ Str.ofString "fix" → x ≠ Str.ofString "got" → x ≠ Str.ofString "ranks" → x ≠ Str.ofString "told" → m' x = kstB (kstB u [(Str.ofString "given", .bytes bG t1), (Str.ofString "base", .int cs.length t2), (Str.ofString "mixed", .ref f), (Str.ofString "octets", .bytes bO t3), (Str.ofString "wanted", .bytes bW t4), (Str.ofString "retold", .bytes bR t5), (Str.ofString "kind", .int kd t6), (Str.ofString "texts", .ref lT)]) [(Str.ofString "given", .bytes bG t1), (Str.ofString "base", .int cs.length t2), (Str.ofString "mixed", .ref f)] x := gz
      refine ⟨h', tk', _, news, rfl, fr_kst (ps := [(Str.ofString "given", .bytes bG t1), (Str.ofString "base", .int cs.length t2), (Str.ofString "mixed", .ref f), (Str.ofString "octets", .bytes bO t3), (Str.ofString "wanted", .bytes bW t4), (Str.ofString "retold", .bytes bR t5), (Str.ofString "kind", .int kd t6), (Str.ofString "texts", .ref lT)]) F' ?_, N', ?_, ⟨hlt, trivial⟩, ih' m'⟩
      · intro p hp
        simp only [List.mem_cons, List.not_mem_nil, or_false] at hp
        rcases hp with rfl | rfl | rfl | rfl | rfl | rfl | rfl | rfl
        · exact g1
        · exact g2
        · exact g3
        all_goals (dsimp only; rw [z _ (by decide) (by decide) (by decide) (by decide) (by decide)]; rfl)
      · intro p hp q hq
        rw [List.mem_singleton.mp hq]
        exact Nat.ne_of_lt (hI p hp)
set_option maxHeartbeats 1500000 in
theorem lawC (prog : Program) (w : World) (mean : ExcName → Option Value) (mg mb : Str → Option Value) (G : Heap) (L fa f c' DP lS lT : Addr) (body : List Stmt) (sc : Scope) (s : Shared) (u : Str → Option Value) (Q : Flow → Shared → Prop) (Q1 : Value → Shared → Prop) (E1 : Value → Shared → Prop)
    (cs oc wt ns : List Int) (S M H kd o : Int) (bS bG bO bH bW bR : Array UInt8) (vS : List Value) (oc' oP o1 o2 o3 o4 o5 o6 : Obj) (vc : Array Value) (qual : Str) (tq tm ta th tS t1 t2 t3 t4 t5 t6 : Tok) (pm ctv : Value) (p0 p1 p2 p3 p4 p5 p6 : Pos) (items : List TItem) (nT : Nat) (tps : Array Value)
    (hb : body = List.drop 17 lawBody) (hsc : sc = lawSc) (K : Below callerA G [] G) (X : (hd.heap_39 w.params).In G) (T : TT mean mg mb G)
    (D : LawAt G L cs oc wt ns S M H f c' DP lS bS bG bO bH bW vS oc' oP o1 o2 o3 o4 o5 o6 vc qual tq tm ta th tS kd) (hR : KBw.bInts bR = (copied cs o wt).2)
    (F : Fr G L s.heap (kstB u [(Str.ofString "given", .bytes bG t1), (Str.ofString "base", .int cs.length t2), (Str.ofString "mixed", .ref f), (Str.ofString "octets", .bytes bO t3), (Str.ofString "wanted", .bytes bW t4), (Str.ofString "retold", .bytes bR t5), (Str.ofString "kind", .int kd t6), (Str.ofString "texts", .ref lT)]))
    (news : List (Addr × Obj)) (N : News G L s.heap news) (hsub : ∀ p ∈ [(f, kla_obj (Str.ofString "<lambda>") qual (lamArgs p0) (lamBody p1 p2 p3 p4 p5 p6) lamScope [(Str.ofString "shift", L + 1 + 1 + 1 + 1 + 1 + 1), (Str.ofString "salt", L + 1 + 1 + 1 + 1 + 1), (Str.ofString "modulus", L + 1 + 1 + 1 + 1)] pm c' ctv), (c', oc'), (DP, oP),
      (L + 1 + 1 + 1 + 1 + 1 + 1, o6), (L + 1 + 1 + 1 + 1 + 1, o5), (L + 1 + 1 + 1 + 1, o4), (L + 1 + 1 + 1, o3), (L + 1 + 1, o2), (L + 1, o1)], p ∈ news) (hlt : (lT, PySem.W.listOf (items.map fun i => Value.ref i.at_).toArray nT) ∈ news)
    (hTab : (128, tabObj tps) ∈ news)
    (hitems : ∀ i ∈ items, i.obj ∈ news ∧ TextOk S M H cs (KBw.bInts i.b) i.fx)
    (hQ : ∀ h' tk' m', Fr G L h' m' → GrownAt 128 h' → Q (.ret (.bool true)) { s with heap := h', toks := tk' }) :
    wpAny (model prog w) (callerA.deeper (envOfC (Str.ofString "law") sc L fa (.ref 130))) (execs body (envOfC (Str.ofString "law") sc L fa (.ref 130))) Q
      (fun e s' => wpAny (model prog w) (callerA.deeper (envOfC (Str.ofString "law") sc L fa (.ref 130))) (leaving (envOfC (Str.ofString "law") sc L fa (.ref 130)) e) (fun _ s'' => Q1 e s'') E1 s') s := by
  have hsc0 := hsc
  conv at hb => rhs; whnf
  conv at hsc => rhs; whnf
  dsimp only at hsc
  subst hb hsc
  k_with_none
  k_with "exec For Tuple Name cons nil" => refine Stop.out ?_
  k_with "pyIter ref" => refine Stop.out ?_
  k_steps
  refine Stop.mk ?_
  refine For_turns F ?zh (fun _ => rfl) (by passes_own)
  k_steps
  refine Stop.mk ?_
  rename Fr _ _ _ _ => FF
  rename News _ _ _ _ => NN
  refine iter_listTurns rfl FF NN hlt rfl rfl (fun I hI => ?_)
  rw [List.map_map]
  refine lawItems prog w mean mg mb G L fa f c' DP lS lT _ _ s u _ Q1 E1 cs oc wt ns S M H kd o bS bG bO bH bW bR vS oc' oP o1 o2 o3 o4 o5 o6 vc qual tq tm ta th tS t1 t2 t3 t4 t5 t6 pm ctv p0 p1 p2 p3 p4 p5 p6 items nT _ (by with_unfolding_all rfl) (by with_unfolding_all rfl) hsc0 K X T D _ news rfl hsub hlt I hI ?zd items hitems u
  intro u' h tk F' N'
  (repeat (first | (k_unfold; try dsimp only) | dsimp only))
  refine lawD prog w mean mg mb G L fa f c' DP lS _ _ { s with heap := h, toks := tk } _ Q Q1 E1 cs oc wt ns S M H kd o bS bG bO bH bW bR vS oc' oP o1 o2 o3 o4 o5 o6 vc qual tq tm ta th tS t1 t2 t3 t4 t5 t6 pm ctv p0 p1 p2 p3 p4 p5 p6 tps (by with_unfolding_all rfl) hsc0 K X T D hR (fr_kst F' (by kst_all)) (fun p hp => N' p (news10 hsub hTab p hp)) fun h' tk' m' F g => hQ h' tk' m' F g

end
/-! F21 -/
section
local macro_rules | `(tactic| walk_at $s:str) => `(tactic| k_extra $s)
set_option maxHeartbeats 1500000 in
theorem lawB (prog : Program) (w : World) (mean : ExcName → Option Value) (mg mb : Str → Option Value) (G : Heap) (L fa f c' DP lS : Addr) (body : List Stmt) (sc : Scope) (s : Shared) (u : Str → Option Value) (Q : Flow → Shared → Prop) (Q1 : Value → Shared → Prop) (E1 : Value → Shared → Prop)
    (cs oc wt ns : List Int) (S M H kd : Int) (bS bG bO bH bW : Array UInt8) (vS : List Value) (oc' oP o1 o2 o3 o4 o5 o6 : Obj) (vc : Array Value) (qual : Str) (tq tm ta th tS t1 t2 t3 t4 t5 t6 : Tok) (pm ctv : Value) (p0 p1 p2 p3 p4 p5 p6 : Pos) (tps : Array Value)
    (hb : body = List.drop 14 lawBody) (hsc : sc = lawSc) (K : Below callerA G [] G) (X : (hd.heap_39 w.params).In G) (T : TT mean mg mb G)
    (D : LawAt G L cs oc wt ns S M H f c' DP lS bS bG bO bH bW vS oc' oP o1 o2 o3 o4 o5 o6 vc qual tq tm ta th tS kd)
    (F : Fr G L s.heap (kstB u [(Str.ofString "given", .bytes bG t1), (Str.ofString "base", .int cs.length t2), (Str.ofString "mixed", .ref f), (Str.ofString "octets", .bytes bO t3), (Str.ofString "whole", .bytes bH t4), (Str.ofString "wanted", .bytes bW t5), (Str.ofString "kind", .int kd t6)]))
    (N : News G L s.heap [(f, kla_obj (Str.ofString "<lambda>") qual (lamArgs p0) (lamBody p1 p2 p3 p4 p5 p6) lamScope [(Str.ofString "shift", L + 1 + 1 + 1 + 1 + 1 + 1), (Str.ofString "salt", L + 1 + 1 + 1 + 1 + 1), (Str.ofString "modulus", L + 1 + 1 + 1 + 1)] pm c' ctv), (c', oc'), (DP, oP),
      (L + 1 + 1 + 1 + 1 + 1 + 1, o6), (L + 1 + 1 + 1 + 1 + 1, o5), (L + 1 + 1 + 1 + 1, o4), (L + 1 + 1 + 1, o3), (L + 1 + 1, o2), (L + 1, o1), (128, tabObj tps)])
    (hQ : ∀ h' tk' m', Fr G L h' m' → GrownAt 128 h' → Q (.ret (.bool true)) { s with heap := h', toks := tk' }) :
    wpAny (model prog w) (callerA.deeper (envOfC (Str.ofString "law") sc L fa (.ref 130))) (execs body (envOfC (Str.ofString "law") sc L fa (.ref 130))) Q
      (fun e s' => wpAny (model prog w) (callerA.deeper (envOfC (Str.ofString "law") sc L fa (.ref 130))) (leaving (envOfC (Str.ofString "law") sc L fa (.ref 130)) e) (fun _ s'' => Q1 e s'') E1 s') s := by
  have hsc0 := hsc
  have D0 := D
  conv at hb => rhs; whnf
  conv at hsc => rhs; whnf
  dsimp only at hsc
  subst hb hsc
  obtain ⟨ok, hS, hG, hO, hH, hW, hwt, hocl, hocI, hnl, hnI, hnL, hP, hM1, hM2, hS0, hS1, hH5, hd1, hd2, e1, e2, e3, e4, e5, e6, hk0⟩ := D
  have hcl := ok.lo
  have hcu := ok.hi
  have hoc9l : (oc ++ sumF S M H oc).length = oc.length + 4 := by rw [List.length_append, sumF_len]
  have hoc9I : ∀ x ∈ oc ++ sumF S M H oc, 0 ≤ x ∧ x < 256 := fun x hx => (List.mem_append.mp hx).elim (hocI x) (sumF_in _ _ _ _ x)
  have hwtl : wt.length ≤ 27 := by
    have := textF_len3 (cs := cs) (by omega) hoc9I
    rw [← hwt] at this
    omega
  have hwt1 : 1 ≤ wt.length := by
    rcases Nat.eq_zero_or_pos wt.length with h | h
    · have h2 := told_text ok hoc9I
      rw [← hwt, List.eq_nil_of_length_eq_zero h] at h2
      have := congrArg List.length h2
      rw [hoc9l] at this
      simp [toldF, ranksF, nz, val, digs_zero] at this
    · exact h
  have hwtI : ∀ y ∈ wt, y ∈ cs := by rw [hwt]; exact textF_mem (by omega)
  k_with_none
  k_with "call ref" => first
    | (k_dflt (refine use_bytes (copied_spec _ _ _ _ _ _ _ _ hW hS (by omega) (by omega) (by omega)) (by k_asm) (by k_asm) (by k_asm) (by k_asm) (by k_asm) rfl rfl rfl rfl (by ktr_room) (by ktr_units) trivial ?_; intro bR tR hR tkR kR FR NR))
    | (k_dflt (refine use_int (draw_specJ _ _ _ _ _ (by decide) (by decide) hnI hnl) (by k_asm) (by k_asm) (by k_asm) (by k_asm) (by k_asm) rfl rfl rfl rfl (by ktr_room) (by ktr_units) (by is_list) ?_; intro tU hU tkU FU NU))
    | (k_dflt (refine use_one (turned_spec _ _ _ _ _ _ _ _ _ _ _ _ _ _ _ hW hH hS hwtI (by omega) (by omega) (by omega) (by omega) ok (Int.fmod_nonneg_of_pos _ (by decide)) (Int.fmod_lt_of_pos _ (by decide))) (by k_asm) (by k_asm) (by k_asm) (by k_asm) (by k_asm) rfl rfl rfl rfl (by ktr_room) (by ktr_units) trivial ?_; intro bT tT hT tkT kT FT NT))
  k_with "execs cons" => ((with_reducible show wpAny _ _ (execs (Stmt.For (Expr.Tuple _ _ _) _ _ _ _ :: _) _) _ _ _); refine Stop.out ?_)
  k_steps
  refine Stop.mk ?_
  rename Fr G L _ _ => FF
  rename News G L _ _ => NN
  refine' lawC prog w mean mg mb G L fa f c' DP lS ?lT ?bd ?scc ?ss ?uu Q Q1 E1 cs oc wt ns S M H kd (draw ns (Int.toNat 15)) bS bG bO bH bW bR vS oc' oP o1 o2 o3 o4 o5 o6 vc qual tq tm ta th tS t1 t2 t3 ?t4 tR t6 pm ctv p0 p1 p2 p3 p4 p5 p6 [⟨?a1, bW, ?k1, false⟩, ⟨?a2, bR, ?k2, false⟩, ⟨?a3, ?b3, ?k3, false⟩, ⟨?a4, ?b3, ?k4, true⟩, ⟨?a5, ?b5, ?k5, false⟩, ⟨?a6, ?b5, ?k6, true⟩, ⟨?a7, ?b7, ?k7, false⟩, ⟨?a8, ?b7, ?k8, true⟩] ?nT tps ?e1 hsc0 K X T D0 kR (fr_kst (ps := [(Str.ofString "given", .bytes bG t1), (Str.ofString "base", .int cs.length t2), (Str.ofString "mixed", .ref f), (Str.ofString "octets", .bytes bO t3), (Str.ofString "wanted", .bytes bW ?t4), (Str.ofString "retold", .bytes bR tR), (Str.ofString "kind", .int kd t6), (Str.ofString "texts", .ref ?lT)]) FF ?zF) ?nn NN ?zS ?zL ?zT ?zI (fun h' tk' m' F g => hQ h' tk' m' F g)
  case e1 => with_unfolding_all rfl
  case zF =>
    kst_all
  case zL => k_mem
  case zT => k_mem
  case zS =>
    intro p hp
    k_dflt kst_mem
  case zI =>
    intro i hi
    simp only [List.mem_cons, List.not_mem_nil, or_false] at hi
    have okW : TextOk S M H cs (KBw.bInts bW) false := by
      rw [hW]
      refine ⟨by omega, ?_⟩
      rw [hwt]
      exact law_one ok (rstrip_text ok) fun y hy => .inl (textF_mem (by omega) y hy)
    have okR : TextOk S M H cs (KBw.bInts bR) false := by
      rw [kR]
      exact ⟨by rw [copied_len]; omega, retold_one ok hwtI⟩
    rcases hi with rfl | rfl | rfl | rfl | rfl | rfl | rfl | rfl
    · exact ⟨by k_mem, okW⟩
    · exact ⟨by k_mem, okR⟩
    all_goals exact ⟨by k_mem, OneOk.len (by assumption), one_law ok (by assumption)⟩

end
/-! F20 -/
section
local macro_rules | `(tactic| walk_at $s:str) => `(tactic| k_extra $s)
theorem fm6 (x : Int) : 0 ≤ x.fmod 6 ∧ x.fmod 6 < ((6 : Nat) : Int) := ⟨Int.fmod_nonneg_of_pos _ (by decide), Int.fmod_lt_of_pos _ (by decide)⟩
theorem six_ok {t1 t2 t3 t4 t5 t6 : Tok} : ∀ x ∈ (#[Value.int 1 t1, .int 2 t2, .int 3 t3, .int 7 t4, .int 251 t5, .int 65521 t6] : Array Value).toList, ∃ n t, x = .int n t ∧ 1 ≤ n ∧ n ≤ 65521 := by
  intro x hx
  simp at hx
  rcases hx with rfl | rfl | rfl | rfl | rfl | rfl <;> exact ⟨_, _, rfl, by decide, by decide⟩
structure SignsAre (cs : List Int) (k a b c : Int) : Prop where
  eq : cs = signsF k a b c
  ok : SignsOk cs
theorem isSigns {b : Array UInt8} {k a b' c : Int} (h : KBw.bInts b = signsF k a b' c) : ∃ cs, KBw.bInts b = cs ∧ SignsAre cs k a b' c := ⟨_, h, rfl, signsF_ok ..⟩
set_option maxHeartbeats 1500000 in
theorem law_try : PySem.Challenge.rw_fe0044_01.Holds := by
  refine hd ?_
  k_go0
  rename List Int => ns
  all_goals (try k_fold)
  (k_with_none; (k_with "pyIter ref" => refine Stop.out ?_); (k_with "pyIter bytes" => refine Stop.out ?_); (k_with "exec While" => refine Stop.out ?_); (k_with "exec While Compare" => refine Stop.out ?_); (k_with "exec While BoolOp" => refine Stop.out ?_); (k_with "exec While Compare cons nil" => refine Stop.out ?_); (k_with "exec While Name" => refine Stop.out ?_); (k_with "InvEndN" => refine Stop.out ?_); (k_with "KswEnd" => refine Stop.out ?_))
  k_with "call ref" => first
    | (refine use_int (draw_spec _ _ _ _ _ (by assumption) (by omega) (by decide)) (by k_asm) (by k_asm) (by k_asm) (by k_asm) (by k_asm) rfl rfl rfl rfl (by ktr_room) (by ktr_units) (by first | trivial | assumption | is_list) ?_; intro tU hU tkU FU NU)
    | ((refine use_bytes (signs_spec _ _ _ _ _ _ _ _) (by k_asm) (by k_asm) (by k_asm) (by k_asm) (by k_asm) rfl rfl rfl rfl (by ktr_room) (by ktr_units) (by first | trivial | assumption | is_list) ?_; intro bU tU hU tkU kU FU NU); obtain ⟨cs, hcs, okS⟩ := isSigns kU; have hc1 := okS.ok.lo; have hc2 := okS.ok.hi; clear kU)
  k_with "eval DictComp" => refine Stop.out ?_
  k_with "eval IfExp" => refine Stop.out ?_
  k_steps
  refine Stop.mk ?_
  rename Fr _ _ _ _ => FF
  rename News _ _ _ _ => NN
  refine cutE (fun v => ∃ b t, v = .bytes b t ∧ KBw.bInts b = cs) FF NN ?zA1 ?zB1
  case zA1 =>
    refine wpAny_IfExp ?_
    k_steps
    all_goals refine ⟨⟨_, _, rfl, ?_⟩, _, _, rfl, by assumption, by assumption⟩
    · rename (draw _ _).fmod 4 = 1 => hk1
      exact (show KBw.bInts _ = rippleL from rfl).trans (okS.eq.trans (by rw [hk1]; first | done | rfl)).symm
    · assumption
  clear FF NN
  rintro v hG tkG ⟨bG, tG, rfl, kG⟩ FG NG
  k_steps
  refine Stop.mk ?_
  rename Fr _ _ _ _ => FF
  rename News _ _ _ _ => NN
  (k_dflt (refine dict_range (ks := cs) (n := cs.length) FF NN rfl (by omega) rfl (by with_unfolding_all rfl) (by decide) (by rfl) (by decide) (by rfl) (by decide) ?zD (fun _ => rfl) (fun i C h hi hit tk E' => by (obtain ⟨t, oC, m₂, hC, hx, F1, N1⟩ := hit); k_steps) ?zQ))
  case zD =>
    k_steps
    (rename IsRange _ _ _ _ _ _ _ _ => RR)
    (rename Fr _ _ _ _ => FF2)
    (rename News _ _ _ _ => NN2)
    exact ⟨_, _, _, _, _, _, rfl, rfl, RR, FF2, NN2⟩
  case zQ => 
  intro DP oP hP tkP FP NP neP tP
  simp only [List.forall_mem_cons, List.not_mem_nil, false_implies, implies_true, and_true] at neP
  obtain ⟨p1, p2, p3, p4, p5, p6, p7⟩ := neP
  have q1 := Ne.symm p1
  have q2 := Ne.symm p2
  have q3 := Ne.symm p3
  have q4 := Ne.symm p4
  have q5 := Ne.symm p5
  have q6 := Ne.symm p6
  have q7 := Ne.symm p7
  k_with "subscriptTail" => ((with_reducible show wpAny _ _ (subscriptTail (Expr.Tuple _ _ _) _ _ _) _ _ _); k_dflt (refine item_tupP (value := .Tuple _ _ _) (fun x => ∃ n t, x = .int n t ∧ 1 ≤ n ∧ n ≤ 65521) (by k_asm) (List.Mem.head _) 6 rfl (fm6 _).1 (fm6 _).2 (by decide) six_ok ?_; rintro _ ⟨nM, tM, rfl, hM1, hM2⟩))
  k_with "eval ListComp" => refine Stop.out ?_
  k_steps
  refine Stop.mk ?_
  rename Fr _ _ _ _ => FF
  rename News _ _ _ _ => NN
  refine cutE (fun v => ∃ n t, v = .int n t ∧ (n = 0 ∨ n = 41)) FF NN ?zA2 ?zB2
  case zA2 =>
    refine wpAny_IfExp ?_
    k_steps
    · exact ⟨⟨_, _, rfl, .inr rfl⟩, _, _, rfl, by assumption, by assumption⟩
    · exact ⟨⟨_, _, rfl, .inl rfl⟩, _, _, rfl, by assumption, by assumption⟩
  clear FF NN
  rintro v hG tkG ⟨nH, tH, rfl, hH⟩ FG NG
  k_steps
  refine Stop.mk ?_
  rename Fr _ _ _ _ => FF
  rename News _ _ _ _ => NN
  have hMX : MixAt _ _ nM _ nH := mixAt_of NN (List.Mem.head _) (List.Mem.tail _ (List.Mem.head _)) (by assumption) (by assumption) (by k_mem) (by assumption) (by k_mem) (by assumption) (by k_mem) (by assumption)
  have hn6 : 0 ≤ (draw ns 4).fmod 6 ∧ (draw ns 4).fmod 6 < 6 := fm6 _
  k_dflt (refine comp_loudR (n := ((draw ns 4).fmod 6).toNat) (fun i => (draw ns (16 + i)).fmod 256) FF NN rfl (by omega) (by with_unfolding_all rfl) (by decide) (by rfl) (by decide) (by rfl) ?zi3 (fun _ => rfl) ?zg3 ?zq3)
  case zi3 =>
    k_steps
    rename IsRange _ _ _ _ _ _ _ _ => RR
    rename Fr _ _ _ _ => FF2
    rename News _ _ _ _ => NN2
    have e6 : (draw ns 4).fmod 6 = (((draw ns 4).fmod 6).toNat : Int) := by omega
    rw [e6] at RR
    exact ⟨_, _, _, _, _, _, rfl, rfl, RR, FF2, NN2⟩
  case zg3 =>
    intro i I oI C oC D ys m₂ t h tk E' hi3 hC hx F1 N1
    k_with "call ref" => (refine use_int (draw_specI _ _ _ (16 + i) _ _ (by omega) (by assumption) (by omega) (by omega)) (by k_asm) (by k_asm) (by k_asm) (by k_asm) (by k_asm) rfl rfl rfl rfl (by ktr_room) (by ktr_units) (by first | trivial | assumption | is_list) ?_; intro tU hU tkU FU NU)
    k_steps
    exact ⟨⟨_, rfl⟩, _, _, rfl, by assumption, by assumption⟩
  case zq3 =>
  intro DO ysO hO tkO FO NO offO iO
  obtain ⟨oc, hoc⟩ : ∃ oc, oc = List.map (fun i => (draw ns (16 + i)).fmod 256) (List.range ((draw ns 4).fmod 6).toNat) := ⟨_, rfl⟩
  have hocl : oc.length ≤ 5 := by rw [hoc, List.length_map, List.length_range]; omega
  have hocI : KBa.In oc := by
    rw [hoc]
    intro x hx
    obtain ⟨i, _, rfl⟩ := List.mem_map.mp hx
    exact ⟨Int.fmod_nonneg_of_pos _ (by decide), Int.fmod_lt_of_pos _ (by decide)⟩
  rw [← hoc] at iO
  clear hoc FF NN
  have hS0 : 0 ≤ (draw ns 6).fmod 65521 ∧ (draw ns 6).fmod 65521 < 65521 := ⟨Int.fmod_nonneg_of_pos _ (by decide), Int.fmod_lt_of_pos _ (by decide)⟩
  have hm2 : (mixF ((draw ns 6).fmod 65521) nM nH (mixF ((draw ns 6).fmod 65521) nM nH oc)).length = 6 := rfl
  have hm4 : clipAt (mixF ((draw ns 6).fmod 65521) nM nH (mixF ((draw ns 6).fmod 65521) nM nH oc)).length 4 = 4 := rfl
  obtain ⟨oc9, hoc9⟩ : ∃ l, l = oc ++ sumF ((draw ns 6).fmod 65521) nM nH oc := ⟨_, rfl⟩
  have hoc9l : oc9.length = oc.length + 4 := by rw [hoc9, List.length_append, sumF_len]
  have hoc9I : ∀ x ∈ oc9, 0 ≤ x ∧ x < 256 := fun x hx => by rw [hoc9] at hx; exact (List.mem_append.mp hx).elim (hocI x) (sumF_in _ _ _ _ x)
  obtain ⟨wt, hwt⟩ : ∃ l, l = textF cs oc9 := ⟨_, rfl⟩
  have hwtl : wt.length ≤ 27 := by
    have := textF_len3 (cs := cs) (by omega) hoc9I
    rw [← hwt] at this
    omega
  have hwtI : ∀ y ∈ wt, y ∈ cs := by rw [hwt]; exact textF_mem (by omega)
  k_with "call type:bytes" => (k_dflt (refine KBa.make_K (by k_asm) (by k_asm) rfl (by is_list) iO hocI (by omega) ?_; intro hB tB kB FB NB _; have kO := KBa.ints_make hocI))
  k_with "call ref" => first
    | (k_dflt (rename KBw.bInts (_ ++ KBy.picked _ _ _) = _ => kX9; rw [hm4] at kX9; have kX9W := kX9.trans hoc9.symm; refine use_bytes (text_spec _ _ oc9 cs _ _ kX9W (by assumption) (by omega) (by omega) (by omega)) (by k_asm) (by k_asm) (by k_asm) (by k_asm) (by k_asm) rfl rfl rfl rfl (by ktr_room) (by ktr_units) trivial ?_; intro bW tW hW tkW kW FW NW; rw [← hwt] at kW))
    | (k_dflt (rename News _ _ _ _ => NM; refine use_bytes (mix_spec _ _ _ _ _ _ _ (by assumption) (by first | omega | (rw [mixF_len]; decide)) hM1 hM2 hS0.1 hS0.2 hH) (by k_asm) (by k_asm) (by k_asm) (by k_asm) (by k_asm) rfl rfl rfl rfl (by ktr_room) (by ktr_units) (mixAt_of NM (by k_mem) (by k_mem) (by assumption) (by assumption) (by k_mem) (by assumption) (by k_mem) (by assumption) (by k_mem) (by assumption)) ?_; intro bU tU hU tkU kU FU NU))
    | (refine use_int (draw_spec _ _ _ _ _ (by assumption) (by omega) (by decide)) (by k_asm) (by k_asm) (by k_asm) (by k_asm) (by k_asm) rfl rfl rfl rfl (by ktr_room) (by ktr_units) (by first | trivial | assumption | is_list) ?_; intro tU hU tkU FU NU)
  k_steps
  refine Stop.mk ?_
  rename Fr _ _ _ _ => FF
  rename News _ _ _ _ => NN
  refine cutE (fun v => ∃ t, v = .bytes bW t) FF NN ?zA3 ?zB3
  case zA3 =>
    refine wpAny_IfExp ?_
    k_with "call ref" => first
      | (k_dflt (rename News _ _ _ _ => NM; refine use_bytes (enccheck_spec0 _ _ _ _ _ _ _ kO (by omega) hM1 hM2 hS0.1 hS0.2 hH) (by k_asm) (by k_asm) (by k_asm) (by k_asm) (by k_asm) rfl rfl rfl rfl (by ktr_room) (by ktr_units) (mixAt_of NM (by k_mem) (by k_mem) (by assumption) (by assumption) (by k_mem) (by assumption) (by k_mem) (by assumption) (by k_mem) (by assumption)) ?_; intro bU tU hU tkU kU FU NU))
      | (k_dflt (rename News _ _ _ _ => NM; refine use_bytes (enccheck_spec _ _ _ _ _ _ _ _ _ _ kO kG (by omega) (by omega) (by omega) hM1 hM2 hS0.1 hS0.2 hH) (by k_asm) (by k_asm) (by k_asm) (by k_asm) (by k_asm) rfl rfl rfl rfl (by ktr_room) (by ktr_units) (mixAt_of NM (by k_mem) (by k_mem) (by assumption) (by assumption) (by k_mem) (by assumption) (by k_mem) (by assumption) (by k_mem) (by assumption)) ?_; intro bU tU hU tkU kU FU NU))
    k_steps
    · rename (draw ns 0).fmod 4 = 0 => hk0
      have ecs : cs = bitcoinL := okS.eq.trans (by rw [hk0]; first | done | rfl)
      have e9 : KBw.bInts bU = KBw.bInts bW := by rw [kW, hwt, ecs, hoc9]; assumption
      rw [bInts_inj e9]
      exact ⟨⟨_, rfl⟩, _, _, rfl, by assumption, by assumption⟩
    · have e9 : KBw.bInts bU = KBw.bInts bW := by rw [kW, hwt, hoc9]; assumption
      rw [bInts_inj e9]
      exact ⟨⟨_, rfl⟩, _, _, rfl, by assumption, by assumption⟩
  clear FF NN
  rintro v hG2 tkG2 ⟨tW2, rfl⟩ FG2 NG2
  k_with "execs cons" => ((with_reducible show wpAny _ _ (execs (Stmt.Assign [Expr.Name (Str.ofString "retold") _] _ _ :: _) _) _ _ _); refine Stop.out ?_)
  k_steps
  refine Stop.mk ?_
  rename Fr _ _ _ _ => FF
  rename News _ _ _ _ => NN
  have hoc9b : KBw.bInts bW = wt := kW
  refine' lawB _ _ _ _ _ _ _ ?fa ?f ?c' DP ?lS ?body ?sc _ _ ?Q ?Q1 ?E1 cs oc wt ns ((draw ns 6).fmod 65521) nM nH ((draw ns 0).fmod 4) ?bS bG (byteArr oc) ?bH bW ?vS ?ocj oP ?o1 ?o2 ?o3 ?o4 ?o5 ?o6 ?vc ?qual ?tq ?tm ?ta ?th ?tS ?t1 ?t2 ?t3 ?t4 ?t5 ?t6 ?pm ?ctv ?p0 ?p1 ?p2 ?p3 ?p4 ?p5 ?p6 ?tps ?eb ?esc ?eK ?eX ?eT ?eD (fr_kst (ps := [(Str.ofString "given", .bytes bG ?t1), (Str.ofString "base", .int cs.length ?t2), (Str.ofString "mixed", .ref ?f), (Str.ofString "octets", .bytes (byteArr oc) ?t3), (Str.ofString "whole", .bytes ?bH ?t4), (Str.ofString "wanted", .bytes bW ?t5), (Str.ofString "kind", .int ((draw ns 0).fmod 4) ?t6)]) FF ?zF) (fun p hp => NN p (SubL.mem ?zS p hp)) ?eQ
  case eb => with_unfolding_all rfl
  case esc => with_unfolding_all rfl
  case zF => kst_all
  case zS => exact ⟨by k_mem, by k_mem, by k_mem, by k_mem, by k_mem, by k_mem, by k_mem, by k_mem, by k_mem, by k_mem, trivial⟩
  case eK => assumption
  case eX => k_asm
  case eT => k_asm
  case eD =>
    have hc2 : ∀ {o : Obj} {b : Array UInt8} {t : Tok}, o.data = .cell (some (.bytes b t)) → o.data = .cell (some (.bytes b t)) := fun h => h
    refine' ⟨okS.ok, ?x1, kG, kO, ?x2, kW, ?x3, hocl, hocI, ?x4, ?x5, ?x6, tP, hM1, hM2, hS0.1, hS0.2, hH, ?y1, ?y2, ?c1, ?c2, ?c3, ?c4, ?c5, ?c6, ?k0⟩
    case c1 => assumption
    case c2 => assumption
    case c3 => assumption
    case c4 => assumption
    case c5 => assumption
    case c6 => assumption
    case y1 => assumption
    case y2 => assumption
    case x1 => exact hcs
    case x2 => exact kX9W.trans hoc9
    case x3 => rw [hwt, hoc9]
    case x6 => assumption
    case x5 => assumption
    case x4 => omega
    case k0 => exact fun h => okS.eq.trans (by rw [h]; first | done | rfl)
  case eQ =>
    intro h' tk' m' F' g'
    refine And.intro ?_ (And.intro g' trivial)
    refine goodW_bool F' (by assumption) (raisesW_false ?_) ?_
    · wrow_none_raised
    · kc_post

end
end Mine
theorem PySem.Challenge.cw_fe0044_01_holds : PySem.Challenge.rw_fe0044_01.Holds := by
  exact Mine.law_try
