import PyProof.Rows.All
import Wide.All
import OpenK.AllK
import Wide.FinOn
import Lean
import PySem.Challenge.RW_pg0114_01
set_option Elab.async false

section
open PySem PySem.W PyProof.Rows
set_option maxRecDepth 100000
set_option maxHeartbeats 8000000
namespace Mine
open_top hd for PySem.Challenge.rw_pg0114_01
end Mine
end

section
open PySem PySem.W PySem.Calls PyProof.Rows
set_option maxRecDepth 100000
set_option maxHeartbeats 8000000
namespace Mine

section
variable {prog : Program} {w : World} {A₀ A : Around} {s : Shared} {base h₀ : Heap} {outer : List Env} {L : Addr} {m mg mb : Str → Option Value} {env : Env} {K : Frag} {p : Program} {loose : List Str} {mean : ExcName → Option Value}
  {R : Result → Shared → Prop} {name qual : Str} {params : Arguments} {body : List Stmt} {scope : Scope} {dV kV doc pm cdv ct oc : Value} {an od : Option Addr} {osl : Array (Option Value)} {f : Addr} {args : Args} {binds : List (Str × Value)}

/-- a call of a def of the text, its own ground being the whole heap as it stands -/
theorem enterP (B : Below A₀ base outer h₀) (F : Fr h₀ L s.heap m) (X₀ : K.In h₀) (T : Top p loose mean mg mb h₀) (hA : A.frames = some (env :: outer)) (hf : env.frame = some L) (hke : env.scope.kind = .function)
    (ho : K.lookup f = some ⟨oc, od, .func (fnOf name qual params body scope dV kV doc pm an cdv ct), osl⟩) (hcd : codeIn K cdv qual = true) (hroom : A.depth < recursionLimit)
    (hbind : BindsTo s (fnOf name qual params body scope dV kV doc pm an cdv ct) args binds) (hloc : ∀ y ∈ binds, scope.names.lookup y.1 = some .local)
    (h : ∀ g L' h₁, g = s.heap → Fr g L' h₁ (fun y => binds.reverse.lookup y) → News g L' h₁ [] → Below A base (env :: outer) g → K.In g → Top p loose mean mg mb g →
      wpAny (model prog w) (A.deeper (envOf qual scope L' f cdv)) (execs body (envOf qual scope L' f cdv))
        (fun fl s' => R (.ok (.ret (match fl with | .ret v => v | _ => .none))) s')
        (fun e s' => wpAny (model prog w) (A.deeper (envOf qual scope L' f cdv)) (leaving (envOf qual scope L' f cdv) e) (fun _ s'' => R (.error e) s'') (fun e' s'' => R (.error e') s'') s')
        { s with heap := h₁, toks := s.toks + binds.length })
    (hco : scope.isCoroutine = false) (hgen : scope.isGenerator = false) (hk : scope.kind = .function)
    (hcell : ∀ x ∈ scope.names, x.2 ≠ .cell) : codeAny (model prog w) A (.call (.ref f) args) R s := by
  obtain ⟨FG, BG, st, lv⟩ := groundX (R := R) B F (News.nil (h₀ := h₀) (L := L) (h := s.heap)) hA hf hke
  refine codeAny_call_def (fd := fnOf name qual params body scope dV kV doc pm an cdv ct) (body := body) (binds := binds) hroom ((X₀.keeps F.keep) _ _ ho) rfl (T.nolimit.keeps F.keep) (codeRec_of (X₀.keeps F.keep) hcd) rfl hbind hcell hloc (fun h₁ hns hk₁ => ?_) hco hgen hk
  exact h s.heap s.heap.objs.size h₁ rfl ⟨hns, fun b o e => hk₁ b o e, Nat.le_refl _⟩ News.nil BG (X₀.keeps F.keep) (T.keeps F.keep)
end
end Mine
end

section
open PySem PySem.W PySem.Calls PyProof.Rows
set_option maxRecDepth 100000
set_option maxHeartbeats 8000000
namespace Mine
section
variable {prog : Program} {w : World} {A : Around} {E : Value → Shared → Prop} {s : Shared} {env : Env} {h₀ : Heap} {x : PySem.Str} {body : List Stmt} {Q : Flow → Shared → Prop}

/-- what holds of the frame between two turns: the named values, the rest as ahead of the loop -/
def StV {σ : Type} (ps : σ → List (PySem.Str × Value)) (x : PySem.Str) (stored : List PySem.Str) (m₀ : PySem.Str → Option Value) (P : σ → Prop) (m : PySem.Str → Option Value) : Prop :=
  ∃ c : σ, (∀ p ∈ ps c, m p.1 = some p.2) ∧ (∀ z, z ≠ x → (∀ p ∈ ps c, z ≠ p.1) → stored.contains z = false → m z = m₀ z) ∧ P c

/-- a loop over a list of the call's own that the loop leaves as it is, whatever its items; the ledger stays -/
theorem iterV {σ : Type} {l : Addr} {vs : List Value} {nn : Nat} {m₀ : PySem.Str → Option Value} {news : List (Addr × Obj)} (ps : σ → List (PySem.Str × Value)) (stored : List PySem.Str) (P : Nat → σ → Prop) (c₀ : σ)
    (hh : A.handled = none) (hl : (l, listOf vs.toArray nn) ∈ news) (F : Fr h₀ env.locals s.heap m₀) (N : News h₀ env.locals s.heap news) (hk : ∀ p ∈ ps c₀, m₀ p.1 = some p.2) (hp : P 0 c₀)
    (turn : ∀ (i : Nat) (v : Value) (c : σ) (u : PySem.Str → Option Value) h tk own, vs[i]? = some v → OwnOff own (news.map (·.1)) → P i c →
      Fr h₀ env.locals h (fun y => if y = x then some v else kstB (fun z => if stored.contains z then u z else m₀ z) (ps c) y) → News h₀ env.locals h (news ++ own) →
      wpAny (model prog w) A (execs body env) (InvPostG h₀ env.locals (fun m' nx => (l, listOf vs.toArray nn) ∈ nx ∧ nx = news ∧ StV ps x stored m₀ (P (i + 1)) m') own { s with heap := h, toks := tk } Q) E { s with heap := h, toks := tk })
    (done : ∀ (c : σ) (u : PySem.Str → Option Value) h tk, P vs.length c → Fr h₀ env.locals h (fun y => if y = x then u y else kstB (fun z => if stored.contains z then u z else m₀ z) (ps c) y) → News h₀ env.locals h news → Q .next { s with heap := h, toks := tk }) :
    wpAny (model prog w) A (pyIter (.ref l)) (fun it s₂ => LoopAtV prog w A h₀ env x body Q E it s₂) E s := by
  refine kdl_iter (fun i m nx => nx = news ∧ StV ps x stored m₀ (P i) m) hh hl F N ⟨rfl, c₀, hk, fun _ _ _ _ => rfl, hp⟩ ?_ ?_
  · rintro i v m₁ news₁ h tk own hv hoff _ ⟨rfl, c, h1, h2, hP⟩ F₁ N₁
    exact turn i v c m₁ h tk own hv hoff hP (kst_fr h1 h2 F₁) N₁
  · rintro m₁ news₁ h tk ⟨rfl, c, h1, h2, hP⟩ F₁ N₁
    exact done c m₁ h tk hP (kst_frOut h1 h2 F₁) N₁

theorem endV {σ : Type} {l : Addr} {vs : List Value} {nn : Nat} {m₀ m' : PySem.Str → Option Value} {news news' own : List (Addr × Obj)} {ps : σ → List (PySem.Str × Value)} {stored : List PySem.Str} {P : σ → Prop} {L : Addr} {s₁ : Shared} {h' : Heap} {tk : Nat} (c : σ)
    (hl : (l, listOf vs.toArray nn) ∈ news) (F : Fr h₀ L h' m') (N : News h₀ L h' news') (hs : ∀ p ∈ news ++ own, p ∈ news') (hoff : OwnOff own (news.map (·.1)))
    (hk : ∀ p ∈ ps c, m' p.1 = some p.2) (hr : ∀ z, z ≠ x → (∀ p ∈ ps c, z ≠ p.1) → stored.contains z = false → m' z = m₀ z) (hp : P c) :
    InvEndG h₀ L (fun m' nx => (l, listOf vs.toArray nn) ∈ nx ∧ nx = news ∧ StV ps x stored m₀ P m') own s₁ { s₁ with heap := h', toks := tk } :=
  InvEndG.intro F N ⟨hl, rfl, c, hk, hr, hp⟩ hoff (fun p h => hs p (List.mem_append_left _ h)) (fun p h => hs p (List.mem_append_right _ h))
end
end Mine
end

section
open PySem PySem.W PySem.Calls PyProof.Rows
set_option maxRecDepth 100000
set_option maxHeartbeats 8000000
namespace Mine
section
variable {prog : Program} {w : World} {A₀ A : Around} {s : Shared} {base h₀ : Heap} {outer : List Env} {L : Addr} {m mg mb : Str → Option Value} {env : Env} {K : Frag} {p : Program} {loose : List Str} {mean : ExcName → Option Value} {news : List (Addr × Obj)}
  {R : Result → Shared → Prop} {name qual : Str} {params : Arguments} {body : List Stmt} {scope : Scope} {cl : List (Str × Addr)} {dV kV doc pm cdv ct oc : Value} {an : Option Addr} {fo : Obj} {f : Addr} {args : Args} {binds : List (Str × Value)}

/-- a call of a def that lies in the heap (a closure), the ledger news its own to turn, all else its ground -/
theorem enterX (B : Below A₀ base outer h₀) (F : Fr h₀ L s.heap m) (N : News h₀ L s.heap news) (X₀ : K.In h₀) (T : Top p loose mean mg mb h₀) (hA : A.frames = some (env :: outer)) (hf : env.frame = some L) (hke : env.scope.kind = .function)
    (ho : s.heap.get? f = some fo) (hd : fo.data = .func (fnX name qual params body scope cl dV kV doc pm an cdv ct)) (hcd : s.heap.CodeRec cdv qual) (hroom : A.depth < recursionLimit)
    (hbind : BindsTo s (fnX name qual params body scope cl dV kV doc pm an cdv ct) args binds) (hloc : ∀ y ∈ binds, scope.names.lookup y.1 = some .local)
    (h : ∀ g L' h₁, (∀ b o, s.heap.get? b = some o → b ∉ news.map (·.1) → g.get? b = some o) → Fr g L' h₁ (fun y => binds.reverse.lookup y) → News g L' h₁ news → Below A base (env :: outer) g → K.In g → Top p loose mean mg mb g → (∀ p ∈ news, p.1 < L') →
      wpAny (model prog w) (A.deeper (envX qual scope L' f cdv cl)) (execs body (envX qual scope L' f cdv cl))
        (fun fl s' => R (.ok (.ret (match fl with | .ret v => v | _ => .none))) s')
        (fun e s' => wpAny (model prog w) (A.deeper (envX qual scope L' f cdv cl)) (leaving (envX qual scope L' f cdv cl) e) (fun _ s'' => R (.error e) s'') (fun e' s'' => R (.error e') s'') s')
        { s with heap := h₁, toks := s.toks + binds.length })
    (hcell : ∀ x ∈ scope.names, x.2 ≠ .cell) (hco : scope.isCoroutine = false := by rfl) (hgen : scope.isGenerator = false := by rfl) (hk : scope.kind = .function := by rfl) : codeAny (model prog w) A (.call (.ref f) args) R s := by
  obtain ⟨FG, BG, st, lv⟩ := groundX (R := R) B F N hA hf hke
  refine codeAny_call_def (fd := fnX name qual params body scope cl dV kV doc pm an cdv ct) (body := body) (binds := binds) hroom ho hd (T.nolimit.keeps F.keep) hcd rfl hbind hcell hloc (fun h₁ hns hk₁ => ?_) hco hgen hk
  exact h _ s.heap.objs.size h₁ (fun b o e n => hideAll_get _ e n) ⟨hns, fun b o e => hk₁ b o (of_hideAll _ e), Nat.le_of_eq (hideAll_size _ _)⟩
    (fun p hp => ⟨hk₁ _ _ (N p hp).1, Nat.ne_of_lt (Heap.lt_size (N p hp).1), hideAll_none _ (List.mem_map_of_mem hp)⟩) BG (X₀.keeps st) (T.keeps st) (fun p hp => Heap.lt_size (N p hp).1)
end
end Mine
namespace Mine
section
variable {prog : Program} {w : World} {A₀ A : Around} {s : Shared} {base h₀ : Heap} {outer : List Env} {L : Addr} {m mg mb : Str → Option Value} {env : Env} {K : Frag} {p : Program} {loose : List Str} {mean : ExcName → Option Value} {news : List (Addr × Obj)}
  {R : Result → Shared → Prop} {name qual : Str} {params : Arguments} {body : List Stmt} {scope : Scope} {dV kV doc pm cdv ct oc : Value} {an od : Option Addr} {osl : Array (Option Value)} {f : Addr} {args : Args} {binds : List (Str × Value)}

/-- a call of a def of the text that keeps cells, the ledger news its own to turn, all else its ground -/
theorem enterC (B : Below A₀ base outer h₀) (F : Fr h₀ L s.heap m) (N : News h₀ L s.heap news) (X₀ : K.In h₀) (T : Top p loose mean mg mb h₀) (hA : A.frames = some (env :: outer)) (hf : env.frame = some L) (hke : env.scope.kind = .function)
    (ho : K.lookup f = some ⟨oc, od, .func (fnOf name qual params body scope dV kV doc pm an cdv ct), osl⟩) (hcd : codeIn K cdv qual = true) (hroom : A.depth < recursionLimit)
    (hbind : BindsTo s (fnOf name qual params body scope dV kV doc pm an cdv ct) args binds) (hkind : (binds.all fun y => scope.names.lookup y.1 == some .local || scope.names.lookup y.1 == some .cell) = true)
    (hnd : ((cellsFrom 0 scope.names []).map (·.1)).Nodup)
    (h : ∀ g L' h₁ tk cells, L' = s.heap.objs.size → (∀ b o, s.heap.get? b = some o → b ∉ news.map (·.1) → g.get? b = some o) → h₀.StaysIn g → Fr g L' h₁ (bindL (envOfC qual scope L' f cdv).kindOf binds fun _ => none) → News g L' h₁ (cells ++ news) →
      CellsAre (bindC (envOfC qual scope L' f cdv).kindOf binds fun _ => none) (cellsFrom (L' + 1) scope.names []) cells → Below A base (env :: outer) g → K.In g → Top p loose mean mg mb g → (∀ p ∈ news, p.1 < L') →
      wpAny (model prog w) (A.deeper (envOfC qual scope L' f cdv)) (execs body (envOfC qual scope L' f cdv))
        (fun fl s' => R (.ok (.ret (match fl with | .ret v => v | _ => .none))) s')
        (fun e s' => wpAny (model prog w) (A.deeper (envOfC qual scope L' f cdv)) (leaving (envOfC qual scope L' f cdv) e) (fun _ s'' => R (.error e) s'') (fun e' s'' => R (.error e') s'') s')
        { s with heap := h₁, toks := tk })
    (hco : scope.isCoroutine = false) (hgen : scope.isGenerator = false) (hk : scope.kind = .function) : codeAny (model prog w) A (.call (.ref f) args) R s := by
  obtain ⟨_, BG, st, _⟩ := groundX (R := R) B F N hA hf hke
  refine codeAny_call_function hroom ((X₀.keeps F.keep) _ _ ho) rfl hco hgen rfl (codeRec_of (X₀.keeps F.keep) hcd) (hbind _ _ _ _ ?_)
  refine wpAny_newFunctionEnv_cells hk (kindsX hkind _) fun e he s₂ ic => ?_
  subst he
  have hk₁ := ic.toInCall.keep
  refine ⟨(T.nolimit.keeps F.keep).keeps hk₁, codeAny_func ?_⟩
  obtain ⟨h₁, tk, rfl, _⟩ := ic.done
  have hnd' := cellsFrom_names scope.names 0 (s.heap.objs.size + 1) [] [] rfl ▸ hnd
  obtain ⟨cells, NC, Y⟩ := Cl.news (h₀ := s.heap) (Nat.le_refl _) fun n c hm => ⟨ic.cell n c (lookup_of_mem_nodup hnd' hm), ic.above n c hm⟩
  have hcn : ∀ q ∈ cells, (hideAll s.heap (news.map (·.1))).get? q.1 = none := fun q hq => by
    cases e : (hideAll s.heap (news.map (·.1))).get? q.1 with
    | none => rfl
    | some o => have z := of_hideAll _ e; rw [(NC q hq).2.2] at z; cases z
  have XG := X₀.keeps st
  have TG := T.keeps st
  exact h (hideAll s.heap (news.map (·.1))) s.heap.objs.size h₁ tk cells rfl (fun b o e n => hideAll_get _ e n) st
    ⟨ic.toInCall.ns, fun b o e => hk₁ b o (of_hideAll _ e), Nat.le_of_eq (hideAll_size _ _)⟩
    (fun q hq => (List.mem_append.mp hq).elim (fun hq => ⟨(NC q hq).1, (NC q hq).2.1, hcn q hq⟩)
      fun hq => ⟨hk₁ _ _ (N q hq).1, Nat.ne_of_lt (Heap.lt_size (N q hq).1), hideAll_none _ (List.mem_map_of_mem hq)⟩)
    Y BG XG TG fun q hq => Heap.lt_size (N q hq).1
end
end Mine
namespace Mine
/-- the walk stops at this goal -/
def Halt (P : Prop) : Prop := P
theorem halt {P : Prop} (h : Halt P) : P := h
end Mine
end

section
open PySem PySem.W PySem.Calls PyProof.Rows
set_option maxRecDepth 100000
set_option maxHeartbeats 8000000
namespace Mine

def leftF (text : PySem.Str) (b : Option Int) (c : Int) : Option Int :=
  b.bind fun b => if Txt.find3 text ⟨#[c.toNat]⟩ b + 1 = 0 then none else some (Txt.find3 text ⟨#[c.toNat]⟩ b + 1)
def leftB (text word : PySem.Str) : Bool := ((KStt.codes word).foldl (leftF text) (some 0)).isSome

theorem left_turn {text : PySem.Str} {pre : List Int} {n : Nat} {b : Int} (h : pre.foldl (leftF text) (some 0) = some b) (hc' : ¬ Txt.find3 text ⟨#[n]⟩ b + 1 = 0) :
    (pre ++ [(n : Int)]).foldl (leftF text) (some 0) = some (Txt.find3 text ⟨#[n]⟩ b + 1) := by
  rw [List.foldl_append, h]
  simp [leftF, hc']
theorem leftF_none {text : PySem.Str} : ∀ l : List Int, l.foldl (leftF text) none = none
  | [] => rfl
  | _ :: l => leftF_none l
theorem left_off {text word : PySem.Str} {pre post : List Int} {n : Nat} {b : Int} (e : KStt.codes word = pre ++ (n : Int) :: post) (h : pre.foldl (leftF text) (some 0) = some b) (hc' : Txt.find3 text ⟨#[n]⟩ b + 1 = 0) :
    leftB text word = false := by
  have h1 : leftF text (some b) (n : Int) = none := by simp [leftF, hc']
  unfold leftB
  rw [e, List.foldl_append, h, List.foldl_cons, h1, leftF_none]
  rfl
theorem left_on {text word : PySem.Str} {b : Int} (h : (KStt.codes word).foldl (leftF text) (some 0) = some b) : leftB text word = true := by
  unfold leftB
  rw [h]
  rfl

theorem left_spec {w : World} {p : Program} {loose : List Str} {mean : ExcName → Option Value} {mg mb : Str → Option Value}
    (dp un : Nat) (gd : Option (List Code)) (cn : Str) (cs : Scope) (a : Addr) (ccd : Value) (cl : List (Str × Addr)) (outer : List Env) (A₀ : Around) (base h₀ : Heap) (L : Addr) (m : Str → Option Value) (s : Shared) (Q E : Value → Shared → Prop)
    (text word : Str) (tt tw : Tok)
    (B : Below A₀ base outer h₀) (F : Fr h₀ L s.heap m) (X : (hd.heap_39 w.params).In h₀) (T : Top p loose mean mg mb h₀) (hcs : cs.kind = .function)
    (hd1 : dp + 1 < recursionLimit) (hu : un + 8 < cLine) (hlt : text.length ≤ 1000) (hlw : word.length ≤ 1000)
    (hret : ∀ h' tk', (∀ b o, s.heap.get? b = some o → h'.get? b = some o) → Q (.bool (leftB text word)) { s with heap := h', toks := tk' }) :
    wpAny (model PySem.Challenge.rw_pg0114_01.row.prog w) (ktrTop dp un gd cn cs L a ccd cl outer) (call (.ref 49) [.str text tt, .str word tw]) Q E s := by
  k_with_none
  w_top off
  refine wpAny_call ?_
  k_dflt (refine' enterP ?k1 ?k2 ?k3 ?k5 ?kA ?kF ?kK ?k6 ?k7 ?k8 ?k9 ?kB ?_ ?c2 ?c3 ?c4 ?c5; (case kA => exact rfl); (case kF => exact rfl); (case kK => assumption); (case k1 => k_asm); (case k2 => k_asm); (case k3 => k_asm); (case k5 => k_asm); (case k6 => k_is); (case k7 => k_is); (case k8 => ktr_room); (case k9 => exact BindsTo.of_eq rfl); (case c5 => decide); (case kB => exact locs rfl); (case c2 => exact rfl); (case c3 => exact rfl); (case c4 => exact rfl); k_whole; intro g' L' h' hg' F' N' B' X' T'; (try dsimp only); (try k_fold))
  (k_with "pyIter str" => k_state (fun pre b => pre.foldl (leftF text) (some 0) = some b) "begin")
  (k_with "state" => exact left_turn (by assumption) (by assumption))
  k_steps
  all_goals (try dsimp only [qk])
  · have e := left_off (by assumption) (by assumption) (by assumption)
    rw [← e]
    (rename Fr _ _ _ _ => F9)
    exact hret _ _ fun b o h => F9.keep b o (hg' ▸ h)
  · have e := left_on (by assumption)
    rw [← e]
    exact hret _ _ fun b o h => kFr.keep b o (hg' ▸ h)
end Mine
end

section
open PySem PySem.W PySem.Calls PyProof.Rows
set_option maxRecDepth 100000
set_option maxHeartbeats 8000000
namespace Mine
section
open PySem.Builtin PySem.Builtin.Str
theorem gives_find4 (x y : PySem.Str) (i : Int) (t u v z : Tok) : Gives («str.find» ⟨[.str x t, .str y u, .int i v, .int (x.length : Int) z], []⟩) (.int (Txt.find3 x y i)) := by
  show Gives (match occurrences x y (fromIndex x.length i) (min (fromIndex x.length (x.length : Int)) x.length) 1 with | k :: _ => retInt k | [] => (do rule "str.find.not-found"; retInt (-1))) _
  have e : min (fromIndex x.length (x.length : Int)) x.length = x.length := by
    unfold fromIndex
    have h : ¬ ((x.length : Int) < 0) := by omega
    rw [if_neg h]
    omega
  rw [e]
  unfold Txt.find3
  cases occurrences x y (fromIndex x.length i) x.length 1 with
  | nil => exact .rule (.of_eq rfl)
  | cons k _ => exact .of_eq rfl
end
theorem call_find4 {prog : Program} {w : World} {A : Around} {E : Value → Shared → Prop} {s : Shared} {x y : PySem.Str} {t u v z : Tok} {i e : Int} {Q : Value → Shared → Prop} (he : e = (x.length : Int))
    (hq : Q (.int (Txt.find3 x y i) s.toks) { s with toks := s.toks + 1 }) : wpAny (model prog w) A (call (.builtin "str.find") [.str x t, .str y u, .int i v, .int e z]) Q E s := by
  subst he
  exact call_gives F.slot_str_find (typeIs_str _ _ _) F.entry_str_find (F.args_str_find_4 _ _ _ _) (gives_find4 x y i t u v z) hq

def ellF (got : PySem.Str) (b : Option Int) (c : PySem.Str) : Option Int :=
  b.bind fun b => if Txt.find3 got c b < 0 then none else some (Txt.find3 got c b + c.length)
def ellB (got : PySem.Str) (ws : List PySem.Str) : Bool := (ws.foldl (ellF got) (some 0)).isSome

theorem ellF_none {got : PySem.Str} : ∀ l : List PySem.Str, l.foldl (ellF got) none = none
  | [] => rfl
  | _ :: l => ellF_none l
theorem ell_turn {got c : PySem.Str} {ws : List PySem.Str} {i : Nat} {b : Int} (hc : ws[i]? = some c) (hb : (ws.take i).foldl (ellF got) (some 0) = some b) (hf : ¬ Txt.find3 got c b < 0) :
    (ws.take (i + 1)).foldl (ellF got) (some 0) = some (Txt.find3 got c b + c.length) := by
  have e : ws.take (i + 1) = ws.take i ++ [c] := by simp [List.take_add_one, hc]
  rw [e, List.foldl_append, hb]
  simp [ellF, hf]
theorem ell_off {got c : PySem.Str} {ws : List PySem.Str} {i : Nat} {b : Int} (hc : ws[i]? = some c) (hb : (ws.take i).foldl (ellF got) (some 0) = some b) (hf : Txt.find3 got c b < 0) :
    ellB got ws = false := by
  have e : ws = ws.take i ++ c :: ws.drop (i + 1) := by
    have ht := List.take_append_drop (i + 1) ws
    rw [show ws.take (i + 1) = ws.take i ++ [c] by simp [List.take_add_one, hc], List.append_assoc] at ht
    exact ht.symm
  have h1 : ellF got (some b) c = none := by simp [ellF, hf]
  unfold ellB
  rw [e, List.foldl_append, hb, List.foldl_cons, h1, ellF_none]
  rfl

theorem ell_spec {w : World} {p : Program} {loose : List Str} {mean : ExcName → Option Value} {mg mb : Str → Option Value}
    (dp un : Nat) (gd : Option (List Code)) (cn : Str) (cs : Scope) (a : Addr) (ccd : Value) (cl : List (Str × Addr)) (outer : List Env) (A₀ : Around) (base h₀ : Heap) (L : Addr) (m : Str → Option Value) (s : Shared) (Q E : Value → Shared → Prop)
    (want got : Str) (mid : List Str) (tt tw : Tok)
    (B : Below A₀ base outer h₀) (F : Fr h₀ L s.heap m) (X : (hd.heap_39 w.params).In h₀) (T : Top p loose mean mg mb h₀) (hcs : cs.kind = .function)
    (hd1 : dp + 1 < recursionLimit) (hu : un + 8 < cLine) (hlt : want.length ≤ 1000) (hlw : got.length ≤ 1000)
    (hsp : Txt.split want (Str.ofString "...") = Str.ofString "" :: (mid ++ [Str.ofString ""]))
    (hoc : (Builtin.Str.occurrences want (Str.ofString "...") 0 want.length 1).isEmpty = false)
    (hret : ∀ h' tk', (∀ b o, s.heap.get? b = some o → h'.get? b = some o) → Q (.bool (ellB got (Str.ofString "" :: (mid ++ [Str.ofString ""])))) { s with heap := h', toks := tk' }) :
    wpAny (model PySem.Challenge.rw_pg0114_01.row.prog w) (ktrTop dp un gd cn cs L a ccd cl outer) (call (.ref 37) [.str want tw, .str got tt]) Q E s := by
  k_with_none
  w_top off
  refine wpAny_call ?_
  k_dflt (refine' enterP ?k1 ?k2 ?k3 ?k5 ?kA ?kF ?kK ?k6 ?k7 ?k8 ?k9 ?kB ?_ ?c2 ?c3 ?c4 ?c5; (case kA => exact rfl); (case kF => exact rfl); (case kK => assumption); (case k1 => k_asm); (case k2 => k_asm); (case k3 => k_asm); (case k5 => k_asm); (case k6 => k_is); (case k7 => k_is); (case k8 => ktr_room); (case k9 => exact BindsTo.of_eq rfl); (case c5 => decide); (case kB => exact locs rfl); (case c2 => exact rfl); (case c3 => exact rfl); (case c4 => exact rfl); k_whole; intro g' L' h' hg' F' N' B' X' T'; (try dsimp only); (try k_fold))
  k_steps
  · rename List.map (fun x : PySem.Str × Tok => x.fst) _ = Txt.split want (Str.ofString "...") => hl
    rename (List.map (fun x : PySem.Str × Tok => x.fst) _)[Int.toNat 0]? = some _ => hy
    rw [hl, hsp] at hy
    cases hy
    k_steps
    have e9 : ∀ l : List (PySem.Str × Tok), List.map (fun x : PySem.Str × Tok => x.fst) l = Txt.split want (Str.ofString "...") → (List.map (fun x : PySem.Str × Tok => x.fst) l).getD (-1 + ((List.map (fun x : PySem.Str × Tok => x.fst) l).length : Int)).toNat Str.empty = Str.ofString "" := by
      intro l hl
      rw [hl, hsp]
      have e : (-1 + ((Str.ofString "" :: (mid ++ [Str.ofString ""])).length : Int)).toNat = mid.length + 1 := by
        simp only [List.length_cons, List.length_append, List.length_nil]
        omega
      rw [e]
      simp [List.getD]
    rw [e9 _ hl]
    k_steps
    rename StrsAre _ _ => hS
    rename ∀ (a : PySem.Str), a ∈ List.map (fun x : PySem.Str × Tok => x.fst) _ → a.length ≤ want.length => hal
    rename Fr _ _ _ _ => lF
    rename News _ _ _ _ => lN
    rename List (PySem.Str × Tok) => lw
    refine' iterV (σ := Int × Tok) (fun c => [(Str.ofString "startpos", .int c.1 c.2)]) [] (fun i c => ((List.map (fun x : PySem.Str × Tok => x.fst) lw).take i).foldl (ellF got) (some 0) = some c.1) (0, _) (by rfl) (by k_mem) lF lN ?hk ?hp ?turn ?done
    case hk => kst_all
    case hp => exact rfl
    case turn =>
      rintro i v ⟨b, tb⟩ u h tk own hv hoff hb F2 N2
      dsimp only [kstB] at F2
      clear lF lN
      obtain ⟨c, tc, rfl, hc⟩ := StrsAre.item hS i v hv
      have hcl : c.length ≤ 1000 := Nat.le_trans (hal c (List.mem_of_getElem? hc)) hlt
      (try dsimp only)
      (try k_fold)
      (k_with "call builtin:str.find" => (refine call_find4 (by rfl) ?_))
      k_steps
      · have e := ell_off hc hb (by assumption)
        rw [hl, hsp] at e
        rw [← e]
        rename Fr _ _ _ _ => F9
        exact hret _ _ fun b o h => F9.keep b o (hg' ▸ h)
      · rename Fr _ _ _ _ => F9
        rename News _ _ _ _ => N9
        refine' endV (c := (Txt.find3 got c b + c.length, _)) (by k_mem) F9 N9 ?hs hoff (by kst_all) (by kst_same) ?hP
        case hP => exact ell_turn hc hb (by assumption)
        case hs => intro p hp; exact hp
    case done =>
      rintro ⟨b, tb⟩ u h tk hb F2 N2
      dsimp only [kstB] at F2
      clear lF lN
      have e : ellB got (List.map (fun x : PySem.Str × Tok => x.fst) lw) = true := by
        have e1 : (strValues lw).length = (List.map (fun x : PySem.Str × Tok => x.fst) lw).length := StrsAre.length hS
        rw [e1, List.take_length] at hb
        unfold ellB
        rw [hb]
        rfl
      rw [hl, hsp] at e
      (try dsimp only)
      k_steps
      all_goals (try dsimp only [qk])
      rw [← e]
      exact hret _ _ fun b o h => F2.keep b o (hg' ▸ h)
  · exfalso
    rename List.map (fun x : PySem.Str × Tok => x.fst) _ = Txt.split want (Str.ofString "...") => hl
    rw [hsp] at hl
    have hl2 := congrArg List.length hl
    simp only [List.length_map, List.length_cons, List.length_append, List.length_nil] at hl2
    omega
end Mine
end

section
open PySem PySem.W PySem.Calls PyProof.Rows
set_option maxRecDepth 100000
set_option maxHeartbeats 8000000
namespace Mine

def BI (ns : List Int) (k lo hi : Int) : Prop := (∀ i : Nat, (i : Int) < lo → ns.getD i 0 < k) ∧ ∀ i : Nat, hi ≤ (i : Int) → i < ns.length → ¬ ns.getD i 0 < k
theorem fdiv2 (a : Int) : Int.fdiv a 2 = a / 2 := Int.fdiv_eq_ediv_of_nonneg a (by decide)
theorem getD_lt {ns : List Int} (hs : ns.Pairwise (· < ·)) {i j : Nat} (h : i < j) (hj : j < ns.length) : ns.getD i 0 < ns.getD j 0 := by
  have hi : i < ns.length := Nat.lt_trans h hj
  rw [List.getD_eq_getElem?_getD, List.getD_eq_getElem?_getD, List.getElem?_eq_getElem hi, List.getElem?_eq_getElem hj]
  exact List.pairwise_iff_getElem.mp hs i j hi hj h
theorem bs_start (ns : List Int) (k : Int) : 0 ≤ (0 : Int) ∧ (0 : Int) ≤ (ns.length : Int) ∧ (ns.length : Int) ≤ (ns.length : Int) ∧ BI ns k 0 (ns.length : Int) :=
  ⟨by omega, by omega, by omega, fun i h => by omega, fun i h h' => by omega⟩
theorem bs_lo {ns : List Int} {k lo hi : Int} (hs : ns.Pairwise (· < ·)) (h0 : 0 ≤ lo) (h2 : hi ≤ (ns.length : Int)) (h3 : BI ns k lo hi) (hlt : lo < hi) (hc : ns.getD ((lo + hi).fdiv 2).toNat 0 < k) :
    0 ≤ (lo + hi).fdiv 2 + 1 ∧ (lo + hi).fdiv 2 + 1 ≤ hi ∧ hi ≤ (ns.length : Int) ∧ BI ns k ((lo + hi).fdiv 2 + 1) hi := by
  rw [fdiv2] at *
  refine ⟨by omega, by omega, h2, fun i hi' => ?_, h3.2⟩
  by_cases e : i = ((lo + hi) / 2).toNat
  · rw [e]; exact hc
  · exact Int.lt_trans (getD_lt hs (i := i) (j := ((lo + hi) / 2).toNat) (by omega) (by omega)) hc
theorem bs_hi {ns : List Int} {k lo hi : Int} (hs : ns.Pairwise (· < ·)) (h0 : 0 ≤ lo) (h2 : hi ≤ (ns.length : Int)) (h3 : BI ns k lo hi) (hlt : lo < hi) (hc : ¬ ns.getD ((lo + hi).fdiv 2).toNat 0 < k) :
    0 ≤ lo ∧ lo ≤ (lo + hi).fdiv 2 ∧ (lo + hi).fdiv 2 ≤ (ns.length : Int) ∧ BI ns k lo ((lo + hi).fdiv 2) := by
  rw [fdiv2] at *
  refine ⟨h0, by omega, by omega, h3.1, fun i hi' hl => ?_⟩
  by_cases e : i = ((lo + hi) / 2).toNat
  · rw [e]; exact hc
  · have := getD_lt hs (i := ((lo + hi) / 2).toNat) (j := i) (by omega) hl
    omega
theorem bm_lo {lo hi : Int} (hlt : lo < hi) : (hi - ((lo + hi).fdiv 2 + 1)).toNat < (hi - lo).toNat := by rw [fdiv2]; omega
theorem bm_hi {lo hi : Int} (hlt : lo < hi) : ((lo + hi).fdiv 2 - lo).toNat < (hi - lo).toNat := by rw [fdiv2]; omega
theorem bi_end {ns : List Int} {k lo hi : Int} (h : BI ns k lo hi) (e : hi = lo) : BI ns k lo lo := e ▸ h

theorem bis_spec {w : World} {p : Program} {loose : List Str} {mean : ExcName → Option Value} {mg mb : Str → Option Value}
    (dp un : Nat) (gd : Option (List Code)) (cn : Str) (cs : Scope) (a : Addr) (ccd : Value) (cl : List (Str × Addr)) (outer : List Env) (A₀ : Around) (base h₀ : Heap) (L : Addr) (m : Str → Option Value) (s : Shared) (Q E : Value → Shared → Prop)
    (l : Addr) (vs : List Value) (ns : List Int) (k : Int) (tk : Tok)
    (B : Below A₀ base outer h₀) (F : Fr h₀ L s.heap m) (X : (hd.heap_39 w.params).In h₀) (T : Top p loose mean mg mb h₀) (hcs : cs.kind = .function)
    (hd1 : dp + 1 < recursionLimit) (hu : un + 8 < cLine) (hlist : s.heap.IsList l vs.toArray) (hints : IntsAre vs ns) (hsort : ns.Pairwise (· < ·)) (hlen : ns.length ≤ 1000)
    (hret : ∀ r t h' tk', 0 ≤ r → r ≤ (ns.length : Int) → BI ns k r r → (∀ b o, s.heap.get? b = some o → h'.get? b = some o) → Q (.int r t) { s with heap := h', toks := tk' }) :
    wpAny (model PySem.Challenge.rw_pg0114_01.row.prog w) (ktrTop dp un gd cn cs L a ccd cl outer) (call (.ref 30) [.ref l, .int k tk]) Q E s := by
  k_with_none
  w_top off
  refine wpAny_call ?_
  k_dflt (refine' enterP ?k1 ?k2 ?k3 ?k5 ?kA ?kF ?kK ?k6 ?k7 ?k8 ?k9 ?kB ?_ ?c2 ?c3 ?c4 ?c5; (case kA => exact rfl); (case kF => exact rfl); (case kK => assumption); (case k1 => k_asm); (case k2 => k_asm); (case k3 => k_asm); (case k5 => k_asm); (case k6 => k_is); (case k7 => k_is); (case k8 => ktr_room); (case k9 => (refine' kp_binds ?kx ?ke; (case kx => k_in); (case ke => exact fun _ => rfl))); (case c5 => decide); (case kB => exact locs rfl); (case c2 => exact rfl); (case c3 => exact rfl); (case c4 => exact rfl); k_whole; intro g' L' h' hg' F' N' B' X' T'; (try dsimp only); (try k_fold))
  have hl' : g'.IsList l vs.toArray := hg' ▸ hlist
  (k_with "exec While Compare cons nil" => k_while (fun script lo hi => 0 ≤ lo ∧ lo ≤ hi ∧ hi ≤ (script.length : Int) ∧ BI script k lo hi) (fun _ lo hi => (hi - lo).toNat) "lo" "hi")
  (k_with "state" => first | exact bs_start _ _ | exact bs_lo hsort (by assumption) (by assumption) (by assumption) (by assumption) (by assumption) | exact bs_hi hsort (by assumption) (by assumption) (by assumption) (by assumption) (by assumption))
  (k_with "measure" => first | exact bm_lo (by assumption) | exact bm_hi (by assumption))
  k_steps
  all_goals (try dsimp only [qk])
  exact hret _ _ _ _ (by assumption) (by omega) (bi_end (by assumption) (by omega)) fun b o h => kFr.keep b o (hg' ▸ h)
end Mine
end

section
open PySem PySem.W PySem.Calls PyProof.Rows
set_option maxRecDepth 100000
set_option maxHeartbeats 1000000
namespace Mine
/-- the digits to the base 2 ^ n, the lowest first; the last takes what is left -/
def digs (n : Nat) : Nat → Nat → List Nat
  | 0, _ => []
  | 1, x => [x]
  | m + 2, x => x % 2 ^ n :: digs n (m + 1) (x / 2 ^ n)
theorem digs_length (n : Nat) : ∀ (m x : Nat), (digs n m x).length = m
  | 0, _ => rfl
  | 1, _ => rfl
  | m + 2, x => by rw [digs, List.length_cons, digs_length n (m + 1)]
theorem digs_split (n : Nat) : ∀ (a b x : Nat), digs n (a + 1 + (b + 1)) x = digs n (a + 1) (x % 2 ^ ((a + 1) * n)) ++ digs n (b + 1) (x / 2 ^ ((a + 1) * n))
  | 0, b, x => by
    rw [show 0 + 1 + (b + 1) = b + 2 by omega, digs]
    simp [digs]
  | a + 1, b, x => by
    have e0 : 2 ^ ((a + 1 + 1) * n) = 2 ^ n * 2 ^ ((a + 1) * n) := by
      rw [← Nat.pow_add, show (a + 1 + 1) * n = n + (a + 1) * n by rw [Nat.add_mul (a + 1) 1 n, Nat.one_mul, Nat.add_comm]]
    rw [show a + 1 + 1 + (b + 1) = a + 1 + b + 2 by omega, digs, show a + 1 + b + 1 = a + 1 + (b + 1) by omega, digs_split n a b (x / 2 ^ n), digs, List.cons_append, e0,
      Nat.mod_mul_right_mod, Nat.mod_mul_right_div_self, Nat.div_div_eq_div_mul]
theorem nat_xor_low (x k : Nat) : x ^^^ (x / 2 ^ k * 2 ^ k) = x % 2 ^ k := by
  rw [← Nat.shiftRight_eq_div_pow, ← Nat.shiftLeft_eq]
  apply Nat.eq_of_testBit_eq
  intro i
  simp only [Nat.testBit_xor, Nat.testBit_shiftLeft, Nat.testBit_shiftRight, Nat.testBit_mod_two_pow]
  by_cases h : k ≤ i
  · have e : k + (i - k) = i := by omega
    have h2 : ¬ i < k := by omega
    simp [h, e, h2]
  · have h2 : i < k := by omega
    simp [h, h2]
end Mine
namespace Mine
theorem nat_and_high (x k : Nat) : x &&& (x / 2 ^ k * 2 ^ k) = x / 2 ^ k * 2 ^ k := by
  rw [← Nat.shiftRight_eq_div_pow, ← Nat.shiftLeft_eq]
  apply Nat.eq_of_testBit_eq
  intro i
  simp only [Nat.testBit_and, Nat.testBit_shiftLeft, Nat.testBit_shiftRight]
  by_cases h : k ≤ i
  · have e : k + (i - k) = i := by omega
    simp [h, e]
  · simp [h]
theorem bitAnd_nat (x y : Nat) : Builtin.bitAnd (x : Int) (y : Int) = ((x &&& y : Nat) : Int) := by
  unfold Builtin.bitAnd
  simp
theorem xor_low (x k : Nat) : Builtin.bitXor (x : Int) (((x / 2 ^ k * 2 ^ k : Nat)) : Int) = ((x % 2 ^ k : Nat) : Int) := by
  rw [bitXor_and, bitAnd_nat, nat_and_high]
  have := Nat.div_add_mod' x (2 ^ k)
  omega
theorem fdiv_pow (x k : Nat) : (x : Int).fdiv (2 ^ k) = ((x / 2 ^ k : Nat) : Int) := by
  rw [Int.fdiv_eq_ediv_of_nonneg _ (Int.pow_nonneg (by decide))]
  rw [Int.natCast_ediv, Int.natCast_pow]
  rfl
theorem mul_pow (x k : Nat) : ((x : Nat) : Int) * 2 ^ k = ((x * 2 ^ k : Nat) : Int) := by
  rw [Int.natCast_mul, Int.natCast_pow]
  rfl
end Mine
end

section
open PySem PySem.W PySem.Calls PyProof.Rows
set_option maxRecDepth 100000
set_option maxHeartbeats 4000000
namespace Mine
theorem fr_extBut {h₀ h h' : Heap} {L ad : Addr} {m : PySem.Str → Option Value} (F : Fr h₀ L h m) (hn : h₀.get? ad = none) (hL : ad ≠ L) (e : ∀ b o, b ≠ ad → h.get? b = some o → h'.get? b = some o) : Fr h₀ L h' m := by
  obtain ⟨oL, a1, a2, hL', a3⟩ := F.ns
  refine ⟨⟨oL, a1, a2, e _ _ (Ne.symm hL) hL', a3⟩, fun b o q => e b o (fun z => ?_) (F.keep b o q), F.above⟩
  rw [z, hn] at q; cases q
theorem ext_back {h₀ g h h' : Heap} {L L' ad : Addr} {m' : PySem.Str → Option Value} {news news' : List (Addr × Obj)} (N : News h₀ L h news) (hg : ∀ b o, h.get? b = some o → b ∉ news.map (·.1) → g.get? b = some o)
    (F' : Fr g L' h' m') (N' : News g L' h' news') (hs : ∀ p ∈ news, p.1 ≠ ad → p ∈ news') : ∀ b o, b ≠ ad → h.get? b = some o → h'.get? b = some o := by
  intro b o hb e
  by_cases hm : b ∈ news.map (·.1)
  · obtain ⟨q, hq, rfl⟩ := List.mem_map.mp hm
    have h1 := (N q hq).1
    rw [e] at h1
    cases h1
    exact (N' q (hs q hq hb)).1
  · exact F'.keep b o (hg b o e hm)

def fnParts : Stmt → Arguments × List Stmt × Scope
  | .FunctionDef _ args body _ _ _ scope _ _ _ => (args, body, scope)
  | _ => (⟨[], [], none, [], [], none, []⟩, [], ⟨.function, [], false, false, []⟩)
def nthStmt : Nat → List Stmt → Stmt
  | _, [] => .Pass ⟨0, 0, 0, 0⟩
  | 0, s :: _ => s
  | n + 1, _ :: r => nthStmt n r
def inParts : Arguments × List Stmt × Scope := fnParts (nthStmt 1 (fnParts (nthStmt 1 PySem.Challenge.pw_pg0114_01.main.body)).2.1)
abbrev inQual : PySem.Str := Str.ofString "_int2digits.<locals>.inner"
abbrev inObj (ca ci cn : Addr) (doc pm : Value) (c' : Addr) (ctv : Value) : Obj :=
  fnMade (Str.ofString "inner") inQual inParts.1 inParts.2.1 inParts.2.2 [(Str.ofString "n", cn), (Str.ofString "inner", ci), (Str.ofString "a_digits", ca)] doc pm c' ctv
structure InFn (fo : Obj) (kA kI kN : Addr) (doc pm : Value) (c' : Addr) (ctv : Value) : Prop where
  eq : fo = inObj kA kI kN doc pm c' ctv
structure InB (X : Nat) : Prop where
  lt : X < 2 ^ 100

theorem in_mid {lo hi : Int} {a m : Nat} (h1 : lo = (a : Int)) (h2 : hi = ((a + m : Nat) : Int)) : (lo + hi).fdiv (2 ^ Int.toNat 1) = ((a + m / 2 : Nat) : Int) := by
  subst h1 h2
  show Int.fdiv _ (2 ^ 1) = _
  rw [Int.fdiv_eq_ediv_of_nonneg _ (by decide)]
  omega
theorem in_sh {lo hi n : Int} {a m W : Nat} (h1 : lo = (a : Int)) (h2 : hi = ((a + m : Nat) : Int)) (h3 : n = (W : Int)) : ((lo + hi).fdiv (2 ^ Int.toNat 1) - lo) * n = ((m / 2 * W : Nat) : Int) := by
  rw [in_mid h1 h2, h1, h3, Int.natCast_mul]
  congr 1
  omega
theorem in_up {lo hi n x : Int} {a m W X : Nat} (h1 : lo = (a : Int)) (h2 : hi = ((a + m : Nat) : Int)) (h3 : n = (W : Int)) (h4 : x = (X : Int)) :
    x.fdiv (2 ^ (((lo + hi).fdiv (2 ^ Int.toNat 1) - lo) * n).toNat) = ((X / 2 ^ (m / 2 * W) : Nat) : Int) := by
  rw [in_sh h1 h2 h3, h4, Int.toNat_natCast, fdiv_pow]
theorem in_low {lo hi n x : Int} {a m W X : Nat} (h1 : lo = (a : Int)) (h2 : hi = ((a + m : Nat) : Int)) (h3 : n = (W : Int)) (h4 : x = (X : Int)) :
    Builtin.bitXor x (x.fdiv (2 ^ (((lo + hi).fdiv (2 ^ Int.toNat 1) - lo) * n).toNat) * 2 ^ (((lo + hi).fdiv (2 ^ Int.toNat 1) - lo) * n).toNat) = ((X % 2 ^ (m / 2 * W) : Nat) : Int) := by
  rw [in_up h1 h2 h3 h4, in_sh h1 h2 h3, h4, Int.toNat_natCast, mul_pow, xor_low]
theorem in_bits {lo hi n x : Int} {a m W X : Nat} (h1 : lo = (a : Int)) (h2 : hi = ((a + m : Nat) : Int)) (h3 : n = (W : Int)) (h4 : x = (X : Int)) (hm : m ≤ 8) (hW : W ≤ 11) (hX : InB X) :
    (Builtin.Int.intBits (x.fdiv (2 ^ (((lo + hi).fdiv (2 ^ Int.toNat 1) - lo) * n).toNat)) : Int) + ((lo + hi).fdiv (2 ^ Int.toNat 1) - lo) * n ≤ 2 ^ 27 := by
  rw [in_up h1 h2 h3 h4, in_sh h1 h2 h3]
  have e1 : Builtin.Int.intBits ((X / 2 ^ (m / 2 * W) : Nat) : Int) ≤ 100 := intBits_le_iff.mpr (by
    rw [Int.natAbs_natCast]
    exact Nat.lt_of_le_of_lt (Nat.div_le_self _ _) hX.lt)
  have e2 : m / 2 * W ≤ 4 * 11 := Nat.mul_le_mul (by omega) hW
  omega

def InnerC (w : World) (p : Program) (loose : List Str) (mean : ExcName → Option Value) (mg mb : Str → Option Value) (NN : Nat) : Prop :=
    ∀ {dp un : Nat} {gd : Option (List Code)} {cn : Str} {cs : Scope} {a : Addr} {ccd : Value} {cl : List (Str × Addr)} {outer : List Env} {A₀ : Around} {base h₀ : Heap} {L : Addr} {m : Str → Option Value} {s : Shared} {Q E : Value → Shared → Prop}
    {x lo hi n : Int} {X al md W : Nat} {tx tl th tn t1 : Tok} {f c' kA kI kN ad : Addr} {fo oc oA oI oN : Obj} {doc pm ctv : Value} {vs1 : Array Value} {vs : List Value} {ds : List Int} {k1 : Nat}
    (B : Below A₀ base outer h₀) (F : Fr h₀ L s.heap m)
    (N : News h₀ L s.heap [(f, fo), (c', oc), (ad, listOf vs.toArray k1), (kI, oI), (kA, oA), (kN, oN)])
    (XK : (hd.heap_39 w.params).In h₀) (T : Top p loose mean mg mb h₀) (hcs : cs.kind = .function)
    (hfo : InFn fo kA kI kN doc pm c' ctv) (hoc : oc.data = .fields vs1) (hoc1 : vs1[1]? = some (.str inQual t1)) (hoA : oA.data = .cell (some (.ref ad))) (hoI : oI.data = .cell (some (.ref f))) (hoN : oN.data = .cell (some (.int n tn)))
    (hads : ¬ @Eq Nat f ad ∧ ¬ @Eq Nat c' ad ∧ ¬ @Eq Nat kI ad ∧ ¬ @Eq Nat kA ad ∧ ¬ @Eq Nat kN ad)
    (hvs : IntsAre vs ds) (hlo : lo = (al : Int)) (hhi : hi = ((al + md : Nat) : Int)) (hm1 : 1 ≤ md) (hmN : md ≤ NN) (hm8 : md ≤ 8) (hhl : al + md ≤ ds.length) (hdl : ds.length ≤ 8) (hn : n = (W : Int)) (hn2 : W ≤ 11) (hx0 : x = (X : Int)) (hx1 : InB X)
    (hd1 : dp + NN < recursionLimit) (hu : un + 8 * NN < cLine)
    (hret : ∀ h' tk' vs', Fr h₀ L h' m → News h₀ L h' [(f, fo), (c', oc), (ad, listOf vs'.toArray k1), (kI, oI), (kA, oA), (kN, oN)] → (∀ b o, b ≠ ad → s.heap.get? b = some o → h'.get? b = some o) →
      IntsAre vs' (ds.take al ++ (digs W md X).map (fun (d : Nat) => (d : Int)) ++ ds.drop (al + md)) → Q .none { s with heap := h', toks := tk' }),
    wpAny (model PySem.Challenge.rw_pg0114_01.row.prog w) (ktrTop dp un gd cn cs L a ccd cl outer) (call (.ref f) [.int x tx, .int lo tl, .int hi th]) Q E s

theorem in_fnAt {h₀ h : Heap} {L f kA kI kN c' : Addr} {fo : Obj} {doc pm ctv : Value} {news : List (Addr × Obj)} (hfo : InFn fo kA kI kN doc pm c' ctv) (N : News h₀ L h ((f, fo) :: news)) : FnAt f h := by
  have e := (N _ (List.Mem.head _)).1
  rw [hfo.eq] at e
  exact ⟨_, _, _, _, e⟩
theorem in_close {h₀ g h h' : Heap} {L L' f c' ad kI kA kN : Addr} {m m' : PySem.Str → Option Value} {fo oc o1 o2 oI oA oN : Obj} (F : Fr h₀ L h m) (N : News h₀ L h [(f, fo), (c', oc), (ad, o1), (kI, oI), (kA, oA), (kN, oN)])
    (hg : ∀ b o, h.get? b = some o → b ∉ [(f, fo), (c', oc), (ad, o1), (kI, oI), (kA, oA), (kN, oN)].map (·.1) → g.get? b = some o) (F' : Fr g L' h' m') (N' : News g L' h' [(f, fo), (c', oc), (ad, o2), (kI, oI), (kA, oA), (kN, oN)]) :
    Fr h₀ L h' m ∧ News h₀ L h' [(f, fo), (c', oc), (ad, o2), (kI, oI), (kA, oA), (kN, oN)] ∧ ∀ b o, b ≠ ad → h.get? b = some o → h'.get? b = some o := by
  have ex := ext_back (ad := ad) N hg F' N' (fun p hp hne => by
    simp only [List.mem_cons, List.not_mem_nil, or_false] at hp ⊢
    rcases hp with rfl | rfl | rfl | rfl | rfl | rfl
    · exact .inl rfl
    · exact .inr (.inl rfl)
    · exact absurd rfl hne
    · exact .inr (.inr (.inr (.inl rfl)))
    · exact .inr (.inr (.inr (.inr (.inl rfl))))
    · exact .inr (.inr (.inr (.inr (.inr rfl)))))
  have had := N (ad, o1) (by k_mem)
  refine ⟨fr_extBut F had.2.2 had.2.1 ex, fun p hp => ⟨(N' p hp).1, ?_⟩, ex⟩
  simp only [List.mem_cons, List.not_mem_nil, or_false] at hp
  rcases hp with rfl | rfl | rfl | rfl | rfl | rfl
  · exact (N (f, fo) (by k_mem)).2
  · exact (N (c', oc) (by k_mem)).2
  · exact had.2
  · exact (N (kI, oI) (by k_mem)).2
  · exact (N (kA, oA) (by k_mem)).2
  · exact (N (kN, oN) (by k_mem)).2
theorem ints_base {ds : List Int} {lo x : Int} {al X : Nat} {W : Nat} (h1 : lo = (al : Int)) (hx : x = (X : Int)) (hl : al + 1 ≤ ds.length) : ds.set lo.toNat x = ds.take al ++ (digs W 1 X).map (fun (d : Nat) => (d : Int)) ++ ds.drop (al + 1) := by
  subst h1 hx
  rw [Int.toNat_natCast, List.set_eq_take_append_cons_drop, if_pos (by omega)]
  simp [digs]
theorem ints_join {ds : List Int} {al md X W : Nat} (hl : al + md ≤ ds.length) (hm : 2 ≤ md) :
    (ds.take al ++ (digs W (md / 2) (X % 2 ^ (md / 2 * W))).map (fun (d : Nat) => (d : Int)) ++ ds.drop (al + md / 2)).take (al + md / 2) ++ (digs W (md - md / 2) (X / 2 ^ (md / 2 * W))).map (fun (d : Nat) => (d : Int)) ++
      (ds.take al ++ (digs W (md / 2) (X % 2 ^ (md / 2 * W))).map (fun (d : Nat) => (d : Int)) ++ ds.drop (al + md / 2)).drop (al + md / 2 + (md - md / 2)) =
    ds.take al ++ (digs W md X).map (fun (d : Nat) => (d : Int)) ++ ds.drop (al + md) := by
  have e := digs_split W (md / 2 - 1) (md - md / 2 - 1) X
  rw [show md / 2 - 1 + 1 = md / 2 by omega, show md - md / 2 - 1 + 1 = md - md / 2 by omega, show md / 2 + (md - md / 2) = md by omega] at e
  have hA : (ds.take al ++ (digs W (md / 2) (X % 2 ^ (md / 2 * W))).map (fun (d : Nat) => (d : Int))).length = al + md / 2 := by
    rw [List.length_append, List.length_take, List.length_map, digs_length]; omega
  rw [show ds.take al ++ (digs W (md / 2) (X % 2 ^ (md / 2 * W))).map (fun (d : Nat) => (d : Int)) ++ ds.drop (al + md / 2) = (ds.take al ++ (digs W (md / 2) (X % 2 ^ (md / 2 * W))).map (fun (d : Nat) => (d : Int))) ++ ds.drop (al + md / 2) from rfl,
    List.take_left' hA, List.drop_append, List.drop_of_length_le (by rw [hA]; omega), hA, List.nil_append, List.drop_drop, show al + md / 2 + (al + md / 2 + (md - md / 2) - (al + md / 2)) = al + md by omega, e, List.map_append]
  simp only [List.append_assoc]
local macro_rules | `(tactic| walk_at "callWith ref") => `(tactic| (k_here; k_dflt (refine' callWith_F (in_fnAt (by assumption) (by assumption)) ?_; k_whole)))
local macro_rules | `(tactic| walk_at "FnAt") => `(tactic| (k_dflt (exact in_fnAt (by assumption) (by assumption))))
local macro_rules | `(tactic| walk_at "eval Name") => `(tactic| (k_here; k_dflt (refine' nameX_F ?N ?c ?m ?d ?_; (case N => assumption); (case c => rfl); (case m => k_mem); (case d => assumption); k_whole)))

theorem inner_step {w : World} {p : Program} {loose : List Str} {mean : ExcName → Option Value} {mg mb : Str → Option Value} (NN : Nat) (IH : InnerC w p loose mean mg mb NN) : InnerC w p loose mean mg mb (NN + 1) := by
  intro dp un gd cn cs a ccd cl outer A₀ base h₀ L m s Q E x lo hi n X al md W tx tl th tn t1 f c' kA kI kN ad fo oc oA oI oN doc pm ctv vs1 vs ds k1 B F N XK T hcs hfo hoc hoc1 hoA hoI hoN hads hvs hlo hhi hm1 hmN hm8 hhl hdl hn hn2 hx0 hx1 hd1 hu hret
  have hfd : fo.data = .func (fnX (Str.ofString "inner") inQual inParts.1 inParts.2.1 inParts.2.2 [(Str.ofString "n", kN), (Str.ofString "inner", kI), (Str.ofString "a_digits", kA)] .none .none doc pm none (.ref c') ctv) := by rw [hfo.eq]
  k_with_none
  w_top off
  refine wpAny_call ?_
  k_dflt (refine' enterX ?k1 ?k2 ?k4 ?k3 ?k5 ?kA ?kF ?kK ?k6 ?k7 ?kcd ?k8 ?k9 ?kB ?_ ?c5 ?c2 ?c3 ?c4; (case kA => exact rfl); (case kF => exact rfl); (case kK => assumption); (case k1 => k_asm); (case k2 => k_asm); (case k3 => k_asm); (case k4 => k_asm); (case k5 => k_asm); (case k6 => exact (N _ (List.Mem.head _)).1); (case k7 => exact hfd); (case kcd => exact codeRec_news N (by k_mem) hoc hoc1); (case k8 => dsimp only; omega); (case k9 => exact BindsTo.of_eq rfl); (case c5 => decide); (case kB => exact locs rfl); (case c2 => exact rfl); (case c3 => exact rfl); (case c4 => exact rfl); k_whole; intro g' L' h' hg' F' N' B' X' T' l1)
  dsimp only [inParts, fnParts, nthStmt, PySem.Challenge.pw_pg0114_01]
  clear hfd
  have hsh0 : 0 ≤ ((lo + hi).fdiv (2 ^ Int.toNat 1) - lo) * n := by rw [in_sh hlo hhi hn]; omega
  have hbits := in_bits hlo hhi hn hx0 hm8 hn2 hx1
  have hlo0 : 0 ≤ lo := by omega
  have hlo1 : lo < ds.length := by omega
  (try k_fold)
  have hm2 : lo + 1 ≠ hi → 2 ≤ md := by omega
  have hL1 : InB (X % 2 ^ (md / 2 * W)) := ⟨Nat.lt_of_le_of_lt (Nat.mod_le _ _) hx1.lt⟩
  have hL2 : InB (X / 2 ^ (md / 2 * W)) := ⟨Nat.lt_of_le_of_lt (Nat.div_le_self _ _) hx1.lt⟩
  (k_with "call ref" => (k_dflt (first
    | (refine' IH (X := X % 2 ^ (md / 2 * W)) (al := al) (md := md / 2) (W := W) (ds := ds) B' ?kF ?kN X' T' rfl hfo hoc hoc1 hoA hoI hoN hads hvs hlo (in_mid hlo hhi) ?j1 ?j2 ?j3 ?j4 hdl hn hn2 (in_low hlo hhi hn hx0) hL1 ?j5 ?j6 ?_; (case kF => k_asm); (case kN => k_asm); (case j1 => omega); (case j2 => omega); (case j3 => omega); (case j4 => omega); (case j5 => dsimp only; omega); (case j6 => dsimp only; omega); intro h9 tk9 vs9 F9 N9 e9 i9; (try dsimp only); (try k_fold))
    | (refine' IH (X := X / 2 ^ (md / 2 * W)) (al := al + md / 2) (md := md - md / 2) (W := W) (ds := ds.take al ++ (digs W (md / 2) (X % 2 ^ (md / 2 * W))).map (fun (d : Nat) => (d : Int)) ++ ds.drop (al + md / 2)) B' ?kF ?kN X' T' rfl hfo hoc hoc1 hoA hoI hoN hads i9 (in_mid hlo hhi) ?j0 ?j1 ?j2 ?j3 ?j4 ?j7 hn hn2 (in_up hlo hhi hn hx0) hL2 ?j5 ?j6 ?_; (case kF => k_asm); (case kN => k_asm); (case j0 => omega); (case j1 => omega); (case j2 => omega); (case j3 => omega); (case j4 => (simp only [List.length_append, List.length_take, List.length_map, digs_length, List.length_drop]; omega)); (case j7 => (simp only [List.length_append, List.length_take, List.length_map, digs_length, List.length_drop]; omega)); (case j5 => dsimp only; omega); (case j6 => dsimp only; omega); intro h8 tk8 vs8 F8 N8 e8 i8; (try dsimp only); (try k_fold)))))
  (k_with "binaryOp LShift int int" => (with_reducible refine lshift_int (by assumption) (by assumption) ?_))
  k_steps
  all_goals (try dsimp only [qk])
  · have hmd : md = 1 := by omega
    subst hmd
    rename Fr _ _ _ _ => F9
    rename News _ _ _ _ => N9
    rename IntsAre _ (List.set _ _ _) => i9
    obtain ⟨c1, c2, c3⟩ := in_close F N hg' F9 N9
    rw [ints_base hlo hx0 hhl (W := W)] at i9
    exact hret _ _ _ c1 c2 c3 i9
  · obtain ⟨c1, c2, c3⟩ := in_close F N hg' F8 N8
    rw [ints_join hhl (hm2 (by assumption))] at i8
    exact hret _ _ _ c1 c2 c3 i8

theorem inner_all {w : World} {p : Program} {loose : List Str} {mean : ExcName → Option Value} {mg mb : Str → Option Value} : ∀ NN : Nat, InnerC w p loose mean mg mb NN
  | 0 => by intros; omega
  | NN + 1 => inner_step NN (inner_all NN)
end Mine
end

section
open PySem PySem.W PySem.Calls PyProof.Rows
set_option maxRecDepth 100000
set_option maxHeartbeats 4000000
namespace Mine
def tab1 (c' : Addr) : Array Value := #[rawInt 5, rawInt 4, .ref c']

theorem ints_whole {ds : List Int} {D X W : Nat} (h : ds.length = D) : ds.take 0 ++ (digs W D X).map (fun (d : Nat) => (d : Int)) ++ ds.drop (0 + D) = (digs W D X).map (fun (d : Nat) => (d : Int)) := by
  rw [List.take_zero, List.nil_append, List.drop_of_length_le (by omega), List.append_nil]

theorem int2_go {w : World} {p : Program} {loose : List Str} {mean : ExcName → Option Value} {mg mb : Str → Option Value} {dp un : Nat} {gd : Option (List Code)} {cn : Str} {cs : Scope} {a : Addr} {ccd : Value} {cl : List (Str × Addr)} {outer : List Env} {A₀ : Around} {base h₀ : Heap} {L : Addr} {m : Str → Option Value} {s : Shared} {Q E : Value → Shared → Prop}
    {x hi n : Int} {X D W : Nat} {tx tl th tn t1 : Tok} {f c' kA kI kN ad l0 l1 : Addr} {fo oc oA oI oN ol ot : Obj} {q : PySem.Str} {doc pm ctv : Value} {vs1 : Array Value} {vs : List Value} {ds : List Int} {k1 : Nat}
    (B : Below A₀ base outer h₀) (F : Fr h₀ L s.heap m)
    (N : News h₀ L s.heap [(f, fo), (c', oc), (ad, listOf vs.toArray k1), (l0, ol), (kI, oI), (kA, oA), (kN, oN), (l1, ot)])
    (XK : (hd.heap_39 w.params).In h₀) (T : Top p loose mean mg mb h₀) (hcs : cs.kind = .function)
    (hfo : fo = fnMade (Str.ofString "inner") q inParts.1 inParts.2.1 inParts.2.2 [(Str.ofString "n", kN), (Str.ofString "inner", kI), (Str.ofString "a_digits", kA)] doc pm c' ctv) (hq : q = inQual)
    (hoc : oc.data = .fields vs1) (hoc1 : vs1[1]? = some (.str q t1)) (hoA : oA.data = .cell (some (.ref ad))) (hoI : oI.data = .cell (some (.ref f))) (hoN : oN.data = .cell (some (.int n tn)))
    (hads : ¬ @Eq Nat f ad ∧ ¬ @Eq Nat c' ad ∧ ¬ @Eq Nat kI ad ∧ ¬ @Eq Nat kA ad ∧ ¬ @Eq Nat kN ad) (hads2 : @LT.lt Nat _ l0 ad ∧ @LT.lt Nat _ l1 ad)
    (hvs : IntsAre vs ds) (hhi : hi = (D : Int)) (hm1 : 1 ≤ D) (hm8 : D ≤ 8) (hdl : ds.length = D) (hn : n = (W : Int)) (hn2 : W ≤ 11) (hx0 : x = (X : Int)) (hx1 : InB X)
    (hd1 : dp + 8 < recursionLimit) (hu : un + 64 < cLine)
    (hret : ∀ h' tk' vs', Fr h₀ L h' m → News h₀ L h' [(f, fo), (c', oc), (ad, listOf vs'.toArray k1), (l0, ol), (kI, oI), (kA, oA), (kN, oN), (l1, ot)] →
      IntsAre vs' ((digs W D X).map (fun (d : Nat) => (d : Int))) → Q .none { s with heap := h', toks := tk' }) :
    wpAny (model PySem.Challenge.rw_pg0114_01.row.prog w) (ktrTop dp un gd cn cs L a ccd cl outer) (call (.ref f) [.int x tx, .int 0 tl, .int hi th]) Q E s := by
  subst hq
  have N1 : News h₀ L s.heap [(f, fo), (c', oc), (ad, listOf vs.toArray k1), (kI, oI), (kA, oA), (kN, oN)] := fun z hz => N z (by
    simp only [List.mem_cons, List.not_mem_nil, or_false] at hz ⊢
    rcases hz with rfl | rfl | rfl | rfl | rfl | rfl <;> simp)
  refine inner_all 8 (X := X) (al := 0) (md := D) (W := W) B F N1 XK T hcs ⟨hfo⟩ hoc hoc1 hoA hoI hoN hads hvs rfl (by omega) hm1 hm8 hm8 (by omega) (by omega) hn hn2 hx0 hx1 hd1 hu ?_
  intro h9 tk9 vs9 F9 N9 e9 i9
  rw [ints_whole hdl] at i9
  refine hret h9 tk9 vs9 F9 (fun z hz => ?_) i9
  simp only [List.mem_cons, List.not_mem_nil, or_false] at hz
  rcases hz with rfl | rfl | rfl | rfl | rfl | rfl | rfl | rfl
  · exact N9 _ (by simp)
  · exact N9 _ (by simp)
  · exact N9 _ (by simp)
  · have z := N (l0, ol) (by simp)
    exact ⟨e9 _ _ (Nat.ne_of_lt hads2.1) z.1, z.2⟩
  · exact N9 _ (by simp)
  · exact N9 _ (by simp)
  · exact N9 _ (by simp)
  · have z := N (l1, ot) (by simp)
    exact ⟨e9 _ _ (Nat.ne_of_lt hads2.2) z.1, z.2⟩

theorem int2_close {h₀ g h h' : Heap} {L L' r c' : Addr} {m m' : PySem.Str → Option Value} {oc o1 o2 ot : Obj} {rest news' : List (Addr × Obj)} (F : Fr h₀ L h m) (N : News h₀ L h ((16, ot) :: rest)) (h16 : ∀ p ∈ rest, p.1 ≠ 16)
    (hg : ∀ b o, h.get? b = some o → b ∉ [((16 : Addr), ot)].map (·.1) → g.get? b = some o) (hL : L' = h.objs.size) (F' : Fr g L' h' m') (N' : News g L' h' news') (m1 : (r, o1) ∈ news') (m2 : (c', oc) ∈ news') (m3 : (16, o2) ∈ news')
    (l1 : @LT.lt Nat _ L' r) (l2 : @LT.lt Nat _ L' c') :
    Fr h₀ L h' m ∧ News h₀ L h' ((r, o1) :: (c', oc) :: (16, o2) :: rest) ∧ (∀ p ∈ (16, ot) :: rest, p.1 < r) := by
  have N0 : News h₀ L h [(16, ot)] := fun q hq => N q (by rw [List.mem_singleton.mp hq]; exact List.Mem.head _)
  have ex := ext_back (ad := 16) N0 hg F' N' (fun p hp hne => absurd (by rw [List.mem_singleton.mp hp]) hne)
  have h0 := N (16, ot) (List.Mem.head _)
  have fresh : ∀ b : Addr, @LT.lt Nat _ L' b → b ≠ L ∧ h₀.get? b = none := fun b hb => by
    refine ⟨fun e => ?_, ?_⟩
    · have := F.ns.lt; rw [hL] at hb; rw [e] at hb; exact absurd this (Nat.lt_asymm hb)
    · cases q : h₀.get? b with
      | none => rfl
      | some o => have := Heap.lt_size (F.keep _ _ q); rw [hL] at hb; exact absurd this (Nat.lt_asymm hb)
  refine ⟨fr_extBut F h0.2.2 h0.2.1 ex, fun p hp => ?_, fun p hp => ?_⟩
  · rcases List.mem_cons.mp hp with rfl | hp
    · exact ⟨(N' _ m1).1, fresh _ l1⟩
    · rcases List.mem_cons.mp hp with rfl | hp
      · exact ⟨(N' _ m2).1, fresh _ l2⟩
      · rcases List.mem_cons.mp hp with rfl | hp
        · exact ⟨(N' _ m3).1, h0.2⟩
        · have z := N p (List.Mem.tail _ hp)
          exact ⟨ex _ _ (h16 p hp) z.1, z.2⟩
  · have := Heap.lt_size (N p hp).1
    rw [hL] at l1
    exact Nat.lt_trans this l1

theorem int2_first {w : World} {p : Program} {loose : List Str} {mean : ExcName → Option Value} {mg mb : Str → Option Value}
    {dp un : Nat} {gd : Option (List Code)} {cn : Str} {cs : Scope} {a : Addr} {ccd : Value} {cl : List (Str × Addr)} {outer : List Env} {A₀ : Around} {base h₀ : Heap} {L : Addr} {m : Str → Option Value} {s : Shared} {Q E : Value → Shared → Prop}
    {x n : Int} {X W D : Nat} {tx tn : Tok} {rest : List (Addr × Obj)}
    (B : Below A₀ base outer h₀) (F : Fr h₀ L s.heap m) (N : News h₀ L s.heap ((16, tabObj #[]) :: rest)) (XK : (hd.heap_39 w.params).In h₀) (T : Top p loose mean mg mb h₀) (hcs : cs.kind = .function)
    (h16 : ∀ p ∈ rest, p.1 ≠ 16)
    (hcode : CodeHd h₀ 20 16) (hd1 : dp + 10 < recursionLimit) (hu : un + 80 < cLine) (hn : n = (W : Int)) (hn1 : 7 ≤ W) (hn2 : W ≤ 11) (hx : x = (X : Int)) (hx0 : 0 < X) (hxb : InB X)
    (hD : ((Builtin.Int.intBits x : Nat) + n - 1 : Int).fdiv n = (D : Int)) (hD1 : 1 ≤ D) (hD2 : D ≤ 8)
    (hret : ∀ r c' oc vs1 t1 vs k h' tk', Fr h₀ L h' m → News h₀ L h' ((r, listOf vs.toArray k) :: (c', oc) :: (16, tabObj (tab1 c')) :: rest) → oc.data = .fields vs1 → vs1[1]? = some (.str inQual t1) →
      IntsAre vs ((digs W D X).map (fun (d : Nat) => (d : Int))) → (∀ p ∈ (16, tabObj #[]) :: rest, p.1 < r) → @LT.lt Nat _ r c' → Q (.ref r) { s with heap := h', toks := tk' }) :
    wpAny (model PySem.Challenge.rw_pg0114_01.row.prog w) (ktrTop dp un gd cn cs L a ccd cl outer) (call (.ref 21) [.int x tx, .int n tn]) Q E s := by
  k_with_none
  w_top off
  refine wpAny_call ?_
  have N0 : News h₀ L s.heap [(16, tabObj #[])] := fun q hq => N q (by rw [List.mem_singleton.mp hq]; exact List.Mem.head _)
  k_dflt (refine' enterC ?k1 ?k2 N0 ?k3 ?k5 ?kA ?kF ?kK ?k6 ?k7 ?k8 ?k9 ?kB ?kD ?_ ?c2 ?c3 ?c4; (case kA => exact rfl); (case kF => exact rfl); (case kK => assumption); (case k1 => k_asm); (case k2 => k_asm); (case k3 => k_asm); (case k5 => k_asm); (case k6 => k_is); (case k7 => k_is); (case k8 => dsimp only; omega); (case k9 => exact BindsTo.of_eq rfl); (case kB => exact rfl); (case kD => decide +kernel); (case c2 => exact rfl); (case c3 => exact rfl); (case c4 => exact rfl); k_whole; intro g' L' h' tk' cells' hLs hg' hst' F' N' Y' B' X' T' l1; (try k_lt l1); k_cells Y'; (try simp only [List.cons_append, List.nil_append] at N'); (try dsimp only); (try k_fold))
  have hcode' : CodeHd g' 20 16 := hcode.keeps hst'
  have hxI : 0 < x := by omega
  have hnI1 : 7 ≤ n := by omega
  have hnI2 : n ≤ 11 := by omega
  (k_with "call ref" => refine halt ?_)
  k_steps
  · unfold Halt
    rename Fr _ _ _ _ => F9
    rename News _ _ _ _ => N9
    refine' int2_go (X := X) (D := D) (W := W) B' F9 N9 X' T' rfl rfl ?hq ?ho1 ?ho2 ?ho3 ?ho4 ?ho5 ?kads ?kad2 ?kvs ?khi hD1 hD2 ?kdl hn hn2 hx hxb ?kd ?ku ?_
    case hq => rfl
    case ho1 => assumption
    case ho2 => assumption
    case ho3 => assumption
    case ho4 => assumption
    case ho5 => assumption
    case kvs => assumption
    case kads => exact ⟨by omega, by omega, by omega, by omega, by omega⟩
    case kad2 => exact ⟨by omega, by omega⟩
    case khi => omega
    case kdl => omega
    case kd => dsimp only; omega
    case ku => dsimp only; omega
    clear F9 N9
    intro h8 tk8 vs8 F8 N8 i8
    (try dsimp only)
    k_steps
    all_goals (try dsimp only [qk])
    obtain ⟨c1, c2, c3⟩ := int2_close F N h16 hg' hLs F8 N8 (List.Mem.tail _ (List.Mem.tail _ (List.Mem.head _))) (List.Mem.tail _ (List.Mem.head _)) (List.Mem.tail _ (List.Mem.tail _ (List.Mem.tail _ (List.Mem.tail _ (List.Mem.tail _ (List.Mem.tail _ (List.Mem.tail _ (List.Mem.head _)))))))) (by omega) (by omega)
    exact hret _ _ _ _ _ _ _ _ _ c1 c2 (by assumption) (by assumption) i8 c3 (by omega)
  · exfalso
    omega
end Mine
end

section
open PySem PySem.W PySem.Calls PyProof.Rows
set_option maxRecDepth 100000
set_option maxHeartbeats 4000000
namespace Mine
theorem hit_perm {h₀ h : Heap} {L : Addr} {a b c d e f g i : Addr × Obj} (N : News h₀ L h [a, b, c, d, e, f, g, i]) : News h₀ L h [a, g, b, c, d, e, f, i] := fun z hz => N z (by
  simp only [List.mem_cons, List.not_mem_nil, or_false] at hz ⊢
  rcases hz with rfl | rfl | rfl | rfl | rfl | rfl | rfl | rfl <;> simp)
theorem hit_close {h₀ g h h' : Heap} {L L' r c' : Addr} {m m' : PySem.Str → Option Value} {oc o1 ot : Obj} {rest news' : List (Addr × Obj)} (F : Fr h₀ L h m) (N : News h₀ L h ((c', oc) :: (16, ot) :: rest))
    (hg : ∀ b o, h.get? b = some o → b ∉ [(c', oc), ((16 : Addr), ot)].map (·.1) → g.get? b = some o) (hL : L' = h.objs.size) (F' : Fr g L' h' m') (N' : News g L' h' news') (m1 : (r, o1) ∈ news') (m2 : (c', oc) ∈ news') (m3 : (16, ot) ∈ news')
    (l1 : @LT.lt Nat _ L' r) :
    Fr h₀ L h' m ∧ News h₀ L h' ((r, o1) :: (c', oc) :: (16, ot) :: rest) ∧ ∀ b o, h.get? b = some o → h'.get? b = some o := by
  have ex : ∀ b o, h.get? b = some o → h'.get? b = some o := fun b o e => by
    by_cases hm : b ∈ [(c', oc), ((16 : Addr), ot)].map (·.1)
    · simp only [List.map_cons, List.map_nil, List.mem_cons, List.not_mem_nil, or_false] at hm
      rcases hm with rfl | rfl
      · have z := (N _ (List.Mem.head _)).1
        rw [e] at z; cases z
        exact (N' _ m2).1
      · have z := (N _ (List.Mem.tail _ (List.Mem.head _))).1
        rw [e] at z; cases z
        exact (N' _ m3).1
    · exact F'.keep b o (hg b o e hm)
  obtain ⟨oL, a1, a2, hLL, a3⟩ := F.ns
  have fresh : r ≠ L ∧ h₀.get? r = none := by
    refine ⟨fun e => ?_, ?_⟩
    · have := F.ns.lt; rw [hL, e] at l1; exact absurd this (Nat.lt_asymm l1)
    · cases q : h₀.get? r with
      | none => rfl
      | some o => have := Heap.lt_size (F.keep _ _ q); rw [hL] at l1; exact absurd this (Nat.lt_asymm l1)
  refine ⟨⟨⟨oL, a1, a2, ex _ _ hLL, a3⟩, fun b o e => ex b o (F.keep b o e), F.above⟩, fun p hp => ?_, ex⟩
  rcases List.mem_cons.mp hp with rfl | hp
  · exact ⟨(N' _ m1).1, fresh⟩
  · exact ⟨ex _ _ (N p hp).1, (N p hp).2⟩

theorem int2_hit {w : World} {p : Program} {loose : List Str} {mean : ExcName → Option Value} {mg mb : Str → Option Value}
    {dp un : Nat} {gd : Option (List Code)} {cn : Str} {cs : Scope} {a : Addr} {ccd : Value} {cl : List (Str × Addr)} {outer : List Env} {A₀ : Around} {base h₀ : Heap} {L : Addr} {m : Str → Option Value} {s : Shared} {Q E : Value → Shared → Prop}
    {x n : Int} {X W D : Nat} {tx tn : Tok} {c' : Addr} {oc : Obj} {vs1 : Array Value} {t1 : Tok} {rest : List (Addr × Obj)}
    (B : Below A₀ base outer h₀) (F : Fr h₀ L s.heap m) (N : News h₀ L s.heap ((c', oc) :: (16, tabObj #[rawInt (5 : Nat), rawInt (4 : Nat), .ref c']) :: rest)) (hoc : oc.data = .fields vs1) (hoc1 : vs1[1]? = some (.str inQual t1)) (XK : (hd.heap_39 w.params).In h₀) (T : Top p loose mean mg mb h₀) (hcs : cs.kind = .function)
    (h16 : ∀ p ∈ rest, p.1 ≠ 16)
    (hcode : CodeHd h₀ 20 16) (hd1 : dp + 10 < recursionLimit) (hu : un + 80 < cLine) (hn : n = (W : Int)) (hn1 : 7 ≤ W) (hn2 : W ≤ 11) (hx : x = (X : Int)) (hx0 : 0 < X) (hxb : InB X)
    (hD : ((Builtin.Int.intBits x : Nat) + n - 1 : Int).fdiv n = (D : Int)) (hD1 : 1 ≤ D) (hD2 : D ≤ 8)
    (hret : ∀ r vs k h' tk', Fr h₀ L h' m → News h₀ L h' ((r, listOf vs.toArray k) :: (c', oc) :: (16, tabObj #[rawInt (5 : Nat), rawInt (4 : Nat), .ref c']) :: rest) →
      IntsAre vs ((digs W D X).map (fun (d : Nat) => (d : Int))) → (∀ b o, s.heap.get? b = some o → h'.get? b = some o) → @LT.lt Nat _ s.heap.objs.size r → Q (.ref r) { s with heap := h', toks := tk' }) :
    wpAny (model PySem.Challenge.rw_pg0114_01.row.prog w) (ktrTop dp un gd cn cs L a ccd cl outer) (call (.ref 21) [.int x tx, .int n tn]) Q E s := by
  k_with_none
  w_top off
  refine wpAny_call ?_
  have N0 : News h₀ L s.heap [(c', oc), (16, tabObj #[rawInt (5 : Nat), rawInt (4 : Nat), .ref c'])] := fun q hq => N q (by
    simp only [List.mem_cons, List.not_mem_nil, or_false] at hq ⊢
    rcases hq with rfl | rfl <;> simp)
  k_dflt (refine' enterC ?k1 ?k2 N0 ?k3 ?k5 ?kA ?kF ?kK ?k6 ?k7 ?k8 ?k9 ?kB ?kD ?_ ?c2 ?c3 ?c4; (case kA => exact rfl); (case kF => exact rfl); (case kK => assumption); (case k1 => k_asm); (case k2 => k_asm); (case k3 => k_asm); (case k5 => k_asm); (case k6 => k_is); (case k7 => k_is); (case k8 => dsimp only; omega); (case k9 => exact BindsTo.of_eq rfl); (case kB => exact rfl); (case kD => decide +kernel); (case c2 => exact rfl); (case c3 => exact rfl); (case c4 => exact rfl); k_whole; intro g' L' h' tk' cells' hLs hg' hst' F' N' Y' B' X' T' l1; (try k_lt l1); k_cells Y'; (try simp only [List.cons_append, List.nil_append] at N'); (try dsimp only); (try k_fold))
  have hcode' : CodeHd g' 20 16 := hcode.keeps hst'
  have hxI : 0 < x := by omega
  have hnI1 : 7 ≤ n := by omega
  have hnI2 : n ≤ 11 := by omega
  (k_with "call ref" => refine halt ?_)
  k_steps
  · unfold Halt
    rename Fr _ _ _ _ => F9
    rename News _ _ _ _ => N9
    refine' int2_go (X := X) (D := D) (W := W) B' F9 (hit_perm N9) X' T' rfl rfl ?hq ?ho1 ?ho2 ?ho3 ?ho4 ?ho5 ?kads ?kad2 ?kvs ?khi hD1 hD2 ?kdl hn hn2 hx hxb ?kd ?ku ?_
    case hq => rfl
    case ho1 => exact hoc
    case ho2 => exact hoc1
    case ho3 => assumption
    case ho4 => assumption
    case ho5 => assumption
    case kvs => assumption
    case kads => exact ⟨by omega, by omega, by omega, by omega, by omega⟩
    case kad2 => exact ⟨by omega, by omega⟩
    case khi => omega
    case kdl => omega
    case kd => dsimp only; omega
    case ku => dsimp only; omega
    clear F9 N9
    intro h8 tk8 vs8 F8 N8 i8
    (try dsimp only)
    k_steps
    all_goals (try dsimp only [qk])
    obtain ⟨c1, c2, c3⟩ := hit_close F N hg' hLs F8 N8 (List.Mem.tail _ (List.Mem.tail _ (List.Mem.head _))) (List.Mem.tail _ (List.Mem.head _)) (List.Mem.tail _ (List.Mem.tail _ (List.Mem.tail _ (List.Mem.tail _ (List.Mem.tail _ (List.Mem.tail _ (List.Mem.tail _ (List.Mem.head _)))))))) (by omega)
    exact hret _ _ _ _ _ c1 c2 i8 c3 (by omega)
  · exfalso
    omega
end Mine
end

section
open PySem PySem.W PySem.Calls PyProof.Rows
set_option maxRecDepth 100000
set_option maxHeartbeats 2000000
namespace Mine
section
variable {prog : Program} {w : World} {A : Around} {E : Value → Shared → Prop} {R : Result → Shared → Prop} {s : Shared}
/-- one clause, any target, tests: by an invariant over the state -/
theorem compLoopT {elt target iter : Expr} {ifs : List Expr} {scope : Scope} {pos : Pos} {it acc : Value} {env : Env} (I : Nat → Shared → Prop)
    (turn : ∀ n s, I n s → wpAny (model prog w) A (pyNext it) (fun r s₁ => match r with
      | none => R (.ok .next) s₁
      | some v => wpAny (model prog w) A (letOwnedTupleGo target it v) (fun _ s₁' => wpAny (model prog w) A (assign target env v) (fun _ s₂ =>
          wpAny (model prog w) A (forIn ifs true fun c r => if r = true then do let ok ← isTrue c env (eval c env); pure (ForInStep.yield ok) else pure (ForInStep.yield r)) (fun ok s₃ =>
            if ok = true then wpAny (model prog w) A (eval elt env) (fun x s₄ =>
              wpAny (model prog w) A (call (.builtin "list.append") [acc, x]) (fun _ s₅ => ∃ m, m < n ∧ I m s₅) (notedBy (model prog w) A env fun e s' => R (.error e) s') s₄) (notedBy (model prog w) A env fun e s' => R (.error e) s') s₃
            else ∃ m, m < n ∧ I m s₃) (notedBy (model prog w) A env fun e s' => R (.error e) s') s₂) (notedBy (model prog w) A env fun e s' => R (.error e) s') s₁') (notedBy (model prog w) A env fun e s' => R (.error e) s') s₁)
        (notedBy (model prog w) A env fun e s' => R (.error e) s') s)
    (n : Nat) (h : I n s) :
    codeAny (model prog w) A (.compLoop (.ListComp elt [⟨target, iter, ifs, 0⟩] scope pos) 0 it acc env) R s := by
  refine codeAny_loop rfl I (fun n s hI => ?_) n h
  show wpAny _ A ((compTurn (.ListComp elt [⟨target, iter, ifs, 0⟩] scope pos) 0 it acc env).onRaise (fun x => do noteFrame x env; theTreesLotGoes x)) _ _ s
  refine wpAny_noted ?_
  rw [compTurn_list]
  refine wpAny_bind (wpAny_standAt (wpAny_bind (wpAny_mono (turn n s hI) (fun r s₁ h₁ => ?_) fun _ _ h' => h')))
  cases r with
  | none => exact wpAny_pure h₁
  | some v =>
    refine wpAny_bind (wpAny_mono h₁ (fun _ s₁' h₁' => ?_) fun _ _ h' => h')
    refine wpAny_bind (wpAny_mono h₁' (fun _ s₂ h₂ => wpAny_bind (wpAny_mono h₂ (fun ok s₃ h₃ => ?_) fun _ _ h' => h')) fun _ _ h' => h')
    cases ok with
    | false => exact wpAny_pure ⟨rfl, h₃⟩
    | true => exact wpAny_bind (wpAny_bind (wpAny_mono h₃ (fun x s₄ h₄ => wpAny_bind (wpAny_mono h₄ (fun _ s₅ h₅ => wpAny_pure (wpAny_pure ⟨rfl, h₅⟩)) fun _ _ h' => h')) fun _ _ h' => h'))
end
end Mine
namespace Mine
section
variable {prog : Program} {w : World} {A : Around} {R : Result → Shared → Prop} {s₂ : Shared}
theorem pairLoop {elt iter : Expr} {a b : PySem.Str} {pa pb tp : Pos} {kk : Nat} {ifs : List Expr} {scope : Scope} {pos : Pos} {I D C : Addr} {cenv : Env} {fp wr : List Addr} {n : Nat} {Pt : Nat → Array Value → Prop} {St : Nat → Heap → Prop} {Mid : Nat → Addr → Heap → Prop}
    (W : WalksT prog w A I fp wr n Pt St Mid) (hsz : n ≤ sizeLine) (Acc : Nat → List Value → Prop) (Rel : Nat → Value → Value → Prop) (F : Nat → Value → Prop) (pz : Nat → Bool) {m₀ : PySem.Str → Option Value}
    (hh : A.handled = none) (hC : cenv.locals = C) (ha : cenv.kindOf a = some .local) (hb : cenv.kindOf b = some .local) (hab : a ≠ b) (hp : (cenv.scope.kind == .class || (cenv.scope.kind == .module && cenv.locals != cenv.globals)) = false)
    (hCD : C ≠ D) (hCf : C ∉ fp) (hDf : D ∉ fp) (hPt : ∀ i vals, Pt i vals → ∃ x y, vals = #[x, y] ∧ Rel i x y)
    (tests : ∀ i x y s₃ m₃ E', i < n → Rel i x y → s₃.heap.Ns C m₃ → m₃ a = some x → m₃ b = some y → (∀ c o, c ∉ wr → c ≠ C → c ≠ D → s₂.heap.get? c = some o → s₃.heap.get? c = some o) →
      wpAny (model prog w) A (forIn ifs true fun c r => if r = true then do let ok ← isTrue c cenv (eval c cenv); pure (ForInStep.yield ok) else pure (ForInStep.yield r)) (fun ok s₄ => ok = pz i ∧ Keeps s₃ s₄) E' s₃)
    (elts : ∀ i x y s₃ m₃ E', i < n → Rel i x y → pz i = true → s₃.heap.Ns C m₃ → m₃ a = some x → m₃ b = some y → (∀ c o, c ∉ wr → c ≠ C → c ≠ D → s₂.heap.get? c = some o → s₃.heap.get? c = some o) →
      wpAny (model prog w) A (eval elt cenv) (fun z s₄ => F i z ∧ Keeps s₃ s₄) E' s₃)
    (acc0 : Acc 0 []) (accF : ∀ i ys, i < n → Acc i ys → pz i = false → Acc (i + 1) ys) (accT : ∀ i ys z, i < n → Acc i ys → pz i = true → F i z → Acc (i + 1) (ys ++ [z])) (accL : ∀ i ys, Acc i ys → ys.length ≤ i)
    (hst : St 0 s₂.heap) (hacc : s₂.heap.PlainList D #[]) (hns : s₂.heap.Ns C m₀)
    (done : ∀ h' tk m' ys, h'.Ns C m' → h'.PlainList D ys → Acc n ys.toList → (∀ c o, c ∉ wr → c ≠ C → c ≠ D → s₂.heap.get? c = some o → h'.get? c = some o) → R (.ok .next) { s₂ with heap := h', toks := tk }) :
    codeAny (model prog w) A (.compLoop (.ListComp elt [⟨.Tuple [.Name a pa, .Name b pb] kk tp, iter, ifs, 0⟩] scope pos) 0 (.ref I) (.ref D) cenv) R s₂ := by
  have subw : ∀ c, c ∉ fp → c ∉ wr := fun c h hw => h (W.sub c hw)
  refine compLoopT (fun k s => ∃ i h tk m ys, s = { s₂ with heap := h, toks := tk } ∧ i ≤ n ∧ k = n - i ∧ St i h ∧ h.Ns C m ∧ h.PlainList D ys ∧ Acc i ys.toList ∧ ∀ c o, c ∉ wr → c ≠ C → c ≠ D → s₂.heap.get? c = some o → h.get? c = some o) ?_ n
    ⟨0, s₂.heap, s₂.toks, m₀, #[], rfl, Nat.zero_le _, rfl, hst, hns, hacc, acc0, fun _ _ _ _ _ e => e⟩
  rintro k s ⟨i, h, tk, m, ys, rfl, hin, rfl, hs, hn, hl, hA, hk⟩
  by_cases hi : i < n
  · refine W.item i _ _ _ hi hs fun T vals h₁ tk₁ hPv hTs hT hM hk₁ => ?_
    obtain ⟨x, y, rfl, hR⟩ := hPt i vals hPv
    refine W.go _ _ _ i T _ _ _ hM fun h₂ hst₂ hk₂ => ?_
    have hTw : T ∉ wr := W.apart i T h₁ hM
    have up₂ : ∀ c o, c ∉ wr → h.get? c = some o → h₂.get? c = some o := fun c o hw e => hk₂ c o hw (hk₁ c o hw e)
    have hn₂ : h₂.Ns C m := hn.at' fun o e => up₂ C o (subw C hCf) e
    have hT₂ : h₂.IsTuple T #[x, y] := by
      obtain ⟨o, e, r⟩ := hT
      exact ⟨o, hk₂ T o hTw e, r⟩
    have hl₂ : h₂.PlainList D ys := hl.at fun o e => up₂ D o (subw D hDf) e
    subst hC
    refine kcp_assign hh hT₂ ha hb hp hn₂ fun h₃ tk₃ hn₃ hk₃ => ?_
    have hst₃ : St (i + 1) h₃ := W.frame _ _ _ hst₂ fun c hc o e => hk₃ c o (fun q => hCf (q ▸ hc)) e
    have hl₃ : h₃.PlainList D ys := hl₂.at fun o e => hk₃ D o (Ne.symm hCD) e
    have up₃ : ∀ c o, c ∉ wr → c ≠ cenv.locals → c ≠ D → s₂.heap.get? c = some o → h₃.get? c = some o := fun c o h1 h2 h3 e => hk₃ c o h2 (up₂ c o h1 (hk c o h1 h2 h3 e))
    have e1 : (fun z => if z = b then some y else if z = a then some x else m z) a = some x := by simp [hab]
    have e2 : (fun z => if z = b then some y else if z = a then some x else m z) b = some y := by simp
    refine wpAny_mono (tests i x y _ _ _ hi hR hn₃ e1 e2 up₃) (fun ok s₄ h₄ => ?_) fun _ _ q => q
    obtain ⟨rfl, h4, tk4, rfl, hk4⟩ := h₄
    have hn₄ : h4.Ns cenv.locals (fun z => if z = b then some y else if z = a then some x else m z) := hn₃.at' fun o e => hk4 _ o e
    have hl₄ : h4.PlainList D ys := hl₃.at fun o e => hk4 _ o e
    have hst₄ : St (i + 1) h4 := W.frame _ _ _ hst₃ fun c _ o e => hk4 c o e
    have up₄ : ∀ c o, c ∉ wr → c ≠ cenv.locals → c ≠ D → s₂.heap.get? c = some o → h4.get? c = some o := fun c o h1 h2 h3 e => hk4 c o (up₃ c o h1 h2 h3 e)
    cases hpz : pz i with
    | false => exact ⟨n - (i + 1), by omega, i + 1, h4, tk4, (fun z => if z = b then some y else if z = a then some x else m z), ys, rfl, by omega, rfl, hst₄, hn₄, hl₄, accF i _ hi hA hpz, up₄⟩
    | true =>
      refine wpAny_mono (elts i x y _ _ _ hi hR hpz hn₄ e1 e2 up₄) (fun z s₅ h₅ => ?_) fun _ _ q => q
      obtain ⟨hF, h5, tk5, rfl, hk5⟩ := h₅
      refine wpAny_list_append_plain (hl₄.at fun o e => hk5 _ o e) (fun h6 hl6 hs6 => ?_) (by
        have := accL i _ hA
        rw [Array.length_toList] at this
        omega)
      refine ⟨n - (i + 1), by omega, i + 1, h6, tk5, (fun z => if z = b then some y else if z = a then some x else m z), ys.push z, rfl, by omega, rfl, ?_, ?_, hl6, ?_, ?_⟩
      · exact W.frame _ _ _ hst₄ fun c hc o e => (hs6.2 c fun q => hDf (q ▸ hc)).trans (hk5 c o e)
      · exact hn₄.at' fun o e => (hs6.2 _ hCD).trans (hk5 _ o e)
      · rw [Array.toList_push]; exact accT i _ z hi hA hpz hF
      · exact fun c o h1 h2 h3 e => (hs6.2 c h3).trans (hk5 c o (up₄ c o h1 h2 h3 e))
  · have e : i = n := by omega
    subst e
    refine W.done _ _ _ hs fun h' tk' hk' => ?_
    exact done h' tk' m ys (hn.at' fun o e => hk' C o (subw C hCf) e) (hl.at fun o e => hk' D o (subw D hDf) e) hA fun c o h1 h2 h3 e => hk' c o h1 (hk c o h1 h2 h3 e)
end
end Mine
end

section
open PySem PySem.W PySem.Calls PyProof.Rows
set_option maxRecDepth 100000
set_option maxHeartbeats 2000000
namespace Mine
section
variable {prog : Program} {w : World} {A : Around} {E : Value → Shared → Prop} {env : Env} {s : Shared}
theorem pairComp {elt iter : Expr} {a b : PySem.Str} {pa pb tp : Pos} {kk : Nat} {ifs : List Expr} {scope : Scope} {cl : List (PySem.Str × Addr)} {pos : Pos} {Q : Value → Shared → Prop} (Acc : Nat → List Value → Prop) (Rel : Nat → Value → Value → Prop) (F : Nat → Value → Prop) (pz : Nat → Bool)
    (hh : A.handled = none) (hclos : closureFor scope env = pure cl) (hcell : ∀ y ∈ scope.names, y.2 ≠ .cell) (hkind : scope.kind = .function)
    (hnames : ∀ y ∈ scope.names, y.2 = .local → scope.names.lookup y.1 = some .local) (ha : scope.names.lookup a = some .local) (hb : scope.names.lookup b = some .local) (hab : a ≠ b)
    (acc0 : Acc 0 []) (accL : ∀ i ys, Acc i ys → ys.length ≤ i)
    (h : wpAny (model prog w) A (eval iter env) (fun xv s₁ => ∃ I fp wr n Pt St Mid, xv = .ref I ∧ WalksT prog w A I fp wr n Pt St Mid ∧ n ≤ sizeLine ∧ St 0 s₁.heap ∧ (∀ b ∈ fp, b < s₁.heap.objs.size) ∧
      (∀ i vals, Pt i vals → ∃ x y, vals = #[x, y] ∧ Rel i x y) ∧
      (∀ C i x y s₃ m₃ E', s₁.heap.objs.size ≤ C → i < n → Rel i x y → s₃.heap.Ns C m₃ → m₃ a = some x → m₃ b = some y → (∀ c o, c ∉ wr → s₁.heap.get? c = some o → s₃.heap.get? c = some o) →
        wpAny (model prog w) A (forIn ifs true fun c r => if r = true then do let ok ← isTrue c (compEnvC scope cl C env) (eval c (compEnvC scope cl C env)); pure (ForInStep.yield ok) else pure (ForInStep.yield r)) (fun ok s₄ => ok = pz i ∧ Keeps s₃ s₄) E' s₃) ∧
      (∀ C i x y s₃ m₃ E', s₁.heap.objs.size ≤ C → i < n → Rel i x y → pz i = true → s₃.heap.Ns C m₃ → m₃ a = some x → m₃ b = some y → (∀ c o, c ∉ wr → s₁.heap.get? c = some o → s₃.heap.get? c = some o) →
        wpAny (model prog w) A (eval elt (compEnvC scope cl C env)) (fun z s₄ => F i z ∧ Keeps s₃ s₄) E' s₃) ∧
      (∀ i ys, i < n → Acc i ys → pz i = false → Acc (i + 1) ys) ∧ (∀ i ys z, i < n → Acc i ys → pz i = true → F i z → Acc (i + 1) (ys ++ [z])) ∧
      (∀ D h' tk ys, s₁.heap.objs.size ≤ D → h'.PlainList D ys → Acc n ys.toList → (∀ c o, c ∉ wr → s₁.heap.get? c = some o → h'.get? c = some o) → Q (.ref D) { s₁ with heap := h', toks := tk })) E s)
    (hs : ∀ x, foldedSetIterable iter env x = pure x := by intro _; rfl) :
    wpAny (model prog w) A (eval (.ListComp elt [⟨.Tuple [.Name a pa, .Name b pb] kk tp, iter, ifs, 0⟩] scope pos) env) Q E s := by
  rw [eval_ListComp]
  refine wpAny_comprehension_free (use := none) rfl hs hclos hkind hnames (wpAny_mono h (fun xv s₁ h₁ => ?_) fun _ _ e => e)
  obtain ⟨I, fp, wr, n, Pt, St, Mid, rfl, W, hsz, hst, hfp, hPt, ht, he, aF, aT, hQ⟩ := h₁
  refine W.self 0 _ _ _ hst ?_
  refine wpAny_newObj_type (wpAny_newFunctionEnv hcell (by intro y hy; simp at hy) (fun h₁ hns₁ hsb₁ => ?_) hkind)
  dsimp only at hns₁ hsb₁ ⊢
  generalize hH2 : s₁.heap.push { cls := .type "list", dict := none, data := .seq ([] : List Value).toArray } = H2 at hns₁ hsb₁ ⊢
  have hC : H2.objs.size = s₁.heap.objs.size + 1 := by rw [← hH2, Heap.size_push]
  have old : ∀ c o, s₁.heap.get? c = some o → h₁.get? c = some o := fun c o e =>
    hsb₁.extBut c o (by rw [hC]; exact Nat.ne_of_lt (Nat.lt_succ_of_lt (Heap.lt_size e))) (Heap.get?_push_of_some _ (hH2 ▸ Heap.get?_push_of_some _ e))
  have hDC : s₁.heap.objs.size ≠ H2.objs.size := by rw [hC]; exact Nat.ne_of_lt (Nat.lt_succ_self _)
  have hacc : h₁.PlainList s₁.heap.objs.size #[] := ⟨_, hsb₁.extBut _ _ hDC (Heap.get?_push_of_some _ (hH2 ▸ Heap.get?_push_size _ rfl))⟩
  have hst₁ : St 0 h₁ := W.frame _ _ _ hst fun c _ o e => old c o e
  have hDf : s₁.heap.objs.size ∉ fp := fun hm => Nat.lt_irrefl _ (hfp _ hm)
  have hCf : H2.objs.size ∉ fp := fun hm => by have := hfp _ hm; rw [hC] at this; exact Nat.lt_irrefl _ (Nat.lt_of_succ_lt this)
  have low : ∀ c o, s₁.heap.get? c = some o → c ≠ H2.objs.size ∧ c ≠ s₁.heap.objs.size := fun c o e => ⟨by rw [hC]; exact Nat.ne_of_lt (Nat.lt_succ_of_lt (Heap.lt_size e)), Nat.ne_of_lt (Heap.lt_size e)⟩
  have loop : ∀ s₃ : Shared, s₃ = { s₁ with heap := h₁, toks := s₁.toks + ([] : List (PySem.Str × Value)).length } →
      codeAny (model prog w) A (.compLoop (.ListComp elt [⟨.Tuple [.Name a pa, .Name b pb] kk tp, iter, ifs, 0⟩] scope pos) 0 (.ref I) (.ref s₁.heap.objs.size) (compEnvC scope cl H2.objs.size env))
        (compPost (model prog w) A E none Q (.ref s₁.heap.objs.size) H2.objs.size) s₃ := by
    rintro s₃ rfl
    refine pairLoop (cenv := compEnvC scope cl H2.objs.size env) W hsz Acc Rel F pz hh rfl (lookup_relabel_local ha) (lookup_relabel_local hb) hab (by simp [compEnvC, relabel, hkind]) (Ne.symm hDC) hCf hDf hPt
      (fun i x y s₃ m₃ E' hi hR hn e1 e2 hk => ht _ i x y s₃ m₃ E' (by rw [hC]; exact Nat.le_succ _) hi hR hn e1 e2 fun c o hw e => hk c o hw (low c o e).1 (low c o e).2 (old c o e))
      (fun i x y s₃ m₃ E' hi hR hp hn e1 e2 hk => he _ i x y s₃ m₃ E' (by rw [hC]; exact Nat.le_succ _) hi hR hp hn e1 e2 fun c o hw e => hk c o hw (low c o e).1 (low c o e).2 (old c o e))
      acc0 aF aT accL hst₁ hacc hns₁ fun h' tk m' ys hn hl hA hk => ?_
    refine ⟨m', hn, fun h'' hs'' => hQ _ h'' tk ys (Nat.le_refl _) (hl.at fun o e => (hs''.2 _ hDC).trans e) hA fun c o hw e => (hs''.2 c (low c o e).1).trans (hk c o hw (low c o e).1 (low c o e).2 (old c o e))⟩
  exact codeAny_compStart_list (loop _ rfl) (W.self 0 _ _ _ hst₁ (loop _ rfl))
end
end Mine
end

section
open PySem PySem.W PySem.Calls PyProof.Rows
set_option maxRecDepth 100000
set_option maxHeartbeats 2000000
namespace Mine
section
variable {prog : Program} {w : World} {A : Around} {E : Value → Shared → Prop} {env : Env} {s : Shared}

theorem newEnvAround {scope : Scope} {globals : Addr} {cl : List (PySem.Str × Addr)} {qual : PySem.Str} {Q : Env → Shared → Prop}
    (h : Q (newEnv scope s.heap.objs.size globals (cellsFrom (s.heap.objs.size + 1) scope.names cl) qual none .none (some env) builtinsNs) { s with heap := pushCells (s.heap.push { cls := .type "dict", data := .dict #[] }) scope.names }) :
    wpAny (model prog w) A (newFunctionEnv scope globals cl [] qual none .none (some env)) Q E s := by
  simp only [newFunctionEnv, Option.isSome_some, if_true]
  refine wpAny_bind (wpAny_alloc ?_)
  refine wpAny_bind (wpAny_layCells _ (fun name kind cells => by cases hkc : kind == NameKind.cell <;> simp [hkc]) _ _ _ _ ?_)
  rw [show ({ s with heap := s.heap.push { cls := .type "dict", data := .dict #[] } } : Shared).heap.objs.size = s.heap.objs.size + 1 from Heap.size_push ..]
  simp only [List.forIn_nil]
  exact wpAny_bind (wpAny_pure (wpAny_pure h))

theorem lookup_relabel_cell : ∀ {names : List (PySem.Str × NameKind)} {x : PySem.Str}, names.lookup x = some .cell →
    (names.map fun (n, k) => if (k == NameKind.free && env.scope.kind == .function && env.kindOf n == some .cell) then (n, NameKind.cell) else (n, k)).lookup x = some .cell
  | [], _, h => by simp at h
  | (n, k) :: r, x, h => by
    have ih := @lookup_relabel_cell r x
    show List.lookup x ((if (k == NameKind.free && env.scope.kind == .function && env.kindOf n == some .cell) = true then (n, NameKind.cell) else (n, k)) :: _) = _
    cases hx : x == n with
    | true =>
      simp only [List.lookup_cons, hx] at h
      cases h
      simp [List.lookup_cons, hx]
    | false =>
      simp only [List.lookup_cons, hx] at h
      by_cases hc : (k == NameKind.free && env.scope.kind == .function && env.kindOf n == some .cell) = true
      · rw [if_pos hc]; simp only [List.lookup_cons, hx]; exact ih h
      · rw [if_neg hc]; simp only [List.lookup_cons, hx]; exact ih h

/-- the rows laid so far -/
def RowsAt (G : Nat → Array Value → Prop) (lo : Nat) : Nat → List (PySem.Str × Value) → Heap → Prop
  | 0, kvs, _ => kvs = []
  | 1, kvs, h => ∃ Da va, kvs = [(⟨#[97]⟩, .ref Da)] ∧ h.PlainList Da va ∧ G 97 va ∧ @LE.le Nat _ lo Da
  | 2, kvs, h => ∃ Da va Db vb, kvs = [(⟨#[97]⟩, .ref Da), (⟨#[98]⟩, .ref Db)] ∧ h.PlainList Da va ∧ G 97 va ∧ @LE.le Nat _ lo Da ∧ h.PlainList Db vb ∧ G 98 vb ∧ @LE.le Nat _ lo Db
  | _, _, _ => False
theorem RowsAt.keep {G : Nat → Array Value → Prop} {lo i : Nat} {kvs : List (PySem.Str × Value)} {h h' : Heap} (x : RowsAt G lo i kvs h) (hk : ∀ b o, @LE.le Nat _ lo b → h.get? b = some o → h'.get? b = some o) : RowsAt G lo i kvs h' := by
  match i, x with
  | 0, x => exact x
  | 1, ⟨Da, va, e, p, g, l⟩ => exact ⟨Da, va, e, p.at fun o e => hk _ _ l e, g, l⟩
  | 2, ⟨Da, va, Db, vb, e, p, g, l, p', g', l'⟩ => exact ⟨Da, va, Db, vb, e, p.at fun o e => hk _ _ l e, g, l, p'.at fun o e => hk _ _ l' e, g', l'⟩
theorem RowsAt.len {G : Nat → Array Value → Prop} {lo i : Nat} {kvs : List (PySem.Str × Value)} {h : Heap} (x : RowsAt G lo i kvs h) : kvs.length ≤ 2 := by
  match i, x with
  | 0, x => rw [x]; exact Nat.zero_le _
  | 1, ⟨Da, va, e, _⟩ => rw [e]; exact Nat.le_succ _
  | 2, ⟨Da, va, Db, vb, e, _⟩ => rw [e]; exact Nat.le_refl _
theorem RowsAt.snoc {G : Nat → Array Value → Prop} {lo i ch : Nat} {kvs : List (PySem.Str × Value)} {h : Heap} {D : Addr} {va : Array Value} (x : RowsAt G lo i kvs h) (hc : (#[97, 98] : Array Nat)[i]? = some ch) (p : h.PlainList D va) (g : G ch va) (l : @LE.le Nat _ lo D) :
    RowsAt G lo (i + 1) (stored kvs ⟨#[ch]⟩ (.ref D)) h := by
  match i, x with
  | 0, x =>
    cases hc
    cases x
    exact ⟨D, va, rfl, p, g, l⟩
  | 1, ⟨Da, va', e, p', g', l'⟩ =>
    cases hc
    cases e
    exact ⟨Da, va', D, va, rfl, p', g', l', p, g, l⟩
  | 2, _ => cases hc

theorem dictCell {x y : PySem.Str} {vx iter : Expr} {px py pk pos spos : Pos} {scope : Scope} {cl : List (PySem.Str × Addr)} {Q : Flow → Shared → Prop} {m : PySem.Str → Option Value} (G : Nat → Array Value → Prop)
    (hsw : swapsWith (.DictComp (.Name x pk) vx [⟨.Name x px, iter, [], 0⟩] scope pos) (some (.Name y py)) spos.line env = pure true)
    (hclos : closureFor scope env = pure cl) (hkind : scope.kind = .function) (hx : scope.names.lookup x = some .cell)
    (hcells : ∀ n, cellsFrom n scope.names cl = (x, n) :: cl) (hpush : ∀ h, pushCells h scope.names = h.push { cls := .type "cell", data := .cell none })
    (hnames : ∀ z ∈ scope.names, z.2 = .local → scope.names.lookup z.1 = some .local)
    (hy : env.kindOf y = some .local) (hp : (env.scope.kind == .class || (env.scope.kind == .module && env.locals != env.globals)) = false) (hh : A.handled = none) (hdb : (x == ("__debug__" : PySem.Str)) = false)
    (h : wpAny (model prog w) A (eval iter env) (fun xv s₁ => ∃ tt, xv = .str ⟨#[97, 98]⟩ tt ∧ s₁.heap.Ns env.locals m ∧
      (∀ (i ch : Nat) u C c s₃ E', (#[97, 98] : Array Nat)[i]? = some ch → @LE.le Nat _ s₁.heap.objs.size C → @LE.le Nat _ s₁.heap.objs.size c → s₃.heap.IsCell c (some (.str ⟨#[ch]⟩ u)) → Keeps s₁ s₃ →
        wpAny (model prog w) A (eval vx (compEnvC scope ((x, c) :: cl) C env)) (fun y s₄ => ∃ Da va, y = .ref Da ∧ @LE.le Nat _ s₃.heap.objs.size Da ∧ s₄.heap.PlainList Da va ∧ G ch va ∧ Keeps s₃ s₄) E' s₃) ∧
      (∀ D Da va Db vb h' tk, @LE.le Nat _ s₁.heap.objs.size D → @LE.le Nat _ s₁.heap.objs.size Da → @LE.le Nat _ s₁.heap.objs.size Db → h'.Ns env.locals (fun z => if z = y then some (.ref D) else m z) →
        h'.DictOf (strKind prog w) D [(⟨#[97]⟩, .ref Da), (⟨#[98]⟩, .ref Db)] → h'.PlainList Da va → h'.PlainList Db vb → G 97 va → G 98 vb →
        (∀ b o, b ≠ env.locals → s₁.heap.get? b = some o → h'.get? b = some o) → Q .next { s₁ with heap := h', toks := tk })) E s)
    (hs : ∀ x, foldedSetIterable iter env x = pure x := by intro _; rfl) :
    wpAny (model prog w) A (exec (.Assign [.Name y py] (.DictComp (.Name x pk) vx [⟨.Name x px, iter, [], 0⟩] scope pos) spos) env) Q E s := by
  rw [exec_Assign_Name_used _ _ _ _ hsw]
  refine wpAny_bind (wpAny_standAt (wpAny_bind ?_))
  show wpAny _ A (do let _ ← comprehension (.DictComp (.Name x pk) vx [⟨.Name x px, iter, [], 0⟩] scope pos) scope env _ newDict false (eval iter env) (some (assign (.Name y py) env))) _ _ s
  refine wpAny_bind (wpAny_mono (wpAny_comprehension_free (use := some (assign (.Name y py) env)) (Q := fun _ s' => Q .next s') rfl hs hclos hkind hnames
    (wpAny_mono h (fun xv s₁ h₁ => ?_) fun _ _ e => e)) (fun _ s' hq => wpAny_pure (wpAny_pure hq)) fun _ _ e => e)
  obtain ⟨tt, rfl, hns, hval, hdone⟩ := h₁
  refine wpAny_pyIter_str fun oI St hW hst => ?_
  have W := hW A hh
  refine wpAny_newObj_type (newEnvAround ?_)
  rw [hcells, hpush]
  dsimp only at hst ⊢
  generalize hI : s₁.heap.objs.size = I at *
  have hIs : (s₁.heap.push oI).objs.size = I + 1 := by rw [Heap.size_push, hI]
  generalize hH1 : s₁.heap.push oI = H1 at *
  rw [hIs]
  have hDs : (H1.push { cls := .type "dict", dict := none, data := .dict #[] }).objs.size = I + 1 + 1 := by rw [Heap.size_push, hIs]
  have hd0 : (H1.push { cls := .type "dict", dict := none, data := .dict #[] }).DictOf (strKind prog w) (I + 1) [] := hIs ▸ Heap.DictOf.new H1
  generalize hH2 : H1.push { cls := .type "dict", dict := none, data := .dict #[] } = H2 at *
  rw [hDs]
  have hn0 := Heap.Ns.new H2 (.type "dict")
  rw [hDs] at hn0
  have hCs : (H2.push { cls := .type "dict", data := .dict #[] }).objs.size = I + 1 + 1 + 1 := by rw [Heap.size_push, hDs]
  generalize hH3 : H2.push { cls := .type "dict", data := .dict #[] } = H3 at *
  have hcell : (H3.push { cls := .type "cell", data := .cell none }).IsCell (I + 1 + 1 + 1) none := ⟨_, hCs ▸ Heap.get?_push_size _ rfl, rfl⟩
  have up : ∀ b o, H1.get? b = some o → (H3.push { cls := .type "cell", data := .cell none }).get? b = some o := fun b o e => Heap.get?_push_of_some _ (hH3 ▸ Heap.get?_push_of_some _ (hH2 ▸ Heap.get?_push_of_some _ e))
  have up0 : ∀ b o, s₁.heap.get? b = some o → (H3.push { cls := .type "cell", data := .cell none }).get? b = some o := fun b o e => up b o (hH1 ▸ Heap.get?_push_of_some _ e)
  have hd4 : (H3.push { cls := .type "cell", data := .cell none }).DictOf (strKind prog w) (I + 1) [] := hd0.keep fun b o e => Heap.get?_push_of_some _ (hH3 ▸ Heap.get?_push_of_some _ e)
  have hn4 : (H3.push { cls := .type "cell", data := .cell none }).Ns (I + 1 + 1) (fun _ => none) := hn0.keeps fun b o e => Heap.get?_push_of_some _ e
  have hst4 : St 0 (H3.push { cls := .type "cell", data := .cell none }) := W.frame _ _ _ hst fun b _ o e => up b o e
  have hold : ∀ b o, s₁.heap.get? b = some o → @LT.lt Nat _ b I := fun b o e => hI ▸ Heap.lt_size e
  generalize hH4 : H3.push { cls := .type "cell", data := .cell none } = H4 at *
  have loop : codeAny (model prog w) A (.compLoop (.DictComp (.Name x pk) vx [⟨.Name x px, iter, [], 0⟩] scope pos) 0 (.ref I) (.ref (I + 1)) (compEnvC scope ((x, I + 1 + 1 + 1) :: cl) (I + 1 + 1) env))
      (compPost (model prog w) A E (some (assign (.Name y py) env)) (fun _ s' => Q .next s') (.ref (I + 1)) (I + 1 + 1)) { s₁ with heap := H4 } := by
    refine codeAny_compLoop_testsD (fun k s' => ∃ i h tk m' kvs cv, s' = { s₁ with heap := h, toks := tk } ∧ i ≤ 2 ∧ k = 2 - i ∧ St i h ∧ h.Ns (I + 1 + 1) m' ∧ h.IsCell (I + 1 + 1 + 1) cv ∧ h.DictOf (strKind prog w) (I + 1) kvs ∧ RowsAt G (I + 1 + 1 + 1 + 1) i kvs h ∧
        ∀ b o, s₁.heap.get? b = some o → h.get? b = some o) ?_ 2 ⟨0, H4, s₁.toks, _, [], none, rfl, Nat.zero_le _, rfl, hst4, hn4, hcell, hd4, rfl, up0⟩
    rintro k s' ⟨i, h, tk, m', kvs, cv, rfl, hi, rfl, hst', hn', hc', hd', hr', hk'⟩
    by_cases hlt : i < 2
    · refine W.item i _ _ _ hlt hst' fun v h₁ tk₁ hPv hst₁ hk₁ => ?_
      obtain ⟨ch, u, hch, rfl⟩ := hPv
      have a1 : ∀ b, @LT.lt Nat _ I b → b ∉ [I] := fun b hb hm => by rw [List.mem_singleton.mp hm] at hb; exact Nat.lt_irrefl _ hb
      have a2 : ∀ b, @LT.lt Nat _ b I → b ∉ [I] := fun b hb hm => by rw [List.mem_singleton.mp hm] at hb; exact Nat.lt_irrefl _ hb
      have hc₁ : h₁.IsCell (I + 1 + 1 + 1) cv := by obtain ⟨o, e, r⟩ := hc'; exact ⟨o, hk₁ _ _ (a1 _ (by omega)) e, r⟩
      refine wpAny_assign_Name (wpAny_storeName_cell (c := I + 1 + 1 + 1) (v₀ := cv) hkind (lookup_relabel_cell hx) (by simp [compEnvC]) hc₁ fun h₂ hc₂ hs₂ => ?_)
      refine wpAny_tests_nil ?_
      simp only [if_true]
      refine wpAny_Name (wpAny_loadName_cell (c := I + 1 + 1 + 1) hkind (lookup_relabel_cell hx) (by simp [compEnvC]) hc₂ ?_) hdb
      have k₂ : ∀ b o, b ≠ I → b ≠ I + 1 + 1 + 1 → h.get? b = some o → h₂.get? b = some o := fun b o hb hb' e => hs₂.extBut b o hb' (hk₁ b o (fun hm => hb (List.mem_singleton.mp hm)) e)
      have hk₂ : ∀ b o, s₁.heap.get? b = some o → h₂.get? b = some o := fun b o e => by
        have := hold b o e
        exact k₂ b o (Nat.ne_of_lt this) (Nat.ne_of_lt (by omega)) (hk' b o e)
      have hst₂ : St (i + 1) h₂ := W.frame _ _ _ hst₁ fun b hb o e => hs₂.extBut b o (by rw [List.mem_singleton.mp hb]; exact Nat.ne_of_lt (by omega)) e
      refine wpAny_mono (hval i ch u (I + 1 + 1) (I + 1 + 1 + 1) _ _ hch (by omega) (by omega) hc₂ ⟨h₂, tk₁, rfl, hk₂⟩) (fun yv s₄ h₄ => ?_) fun _ _ e => e
      obtain ⟨Da, va, rfl, hDa, hpl, hg, h4, tk4, rfl, hk4⟩ := h₄
      have hd₄ : h4.DictOf (strKind prog w) (I + 1) kvs := hd'.at fun o e => hk4 _ o (k₂ _ o (Nat.ne_of_gt (by omega)) (Nat.ne_of_lt (by omega)) e)
      have hlt2 : @LT.lt Nat _ (I + 1 + 1 + 1) h₂.objs.size := by obtain ⟨o, e, _⟩ := hc₂; exact Heap.lt_size e
      refine wpAny_dictSet_pairs (hsz := by have := hr'.len; rw [sizeLine_eq]; omega) (strKind_is prog w ⟨#[ch]⟩ u) hd₄ fun h₆ hl₆ hs₆ => ?_
      have hr₄ : RowsAt G (I + 1 + 1 + 1 + 1) (i + 1) (stored kvs ⟨#[ch]⟩ (.ref Da)) h4 :=
        (hr'.keep fun b o l e => hk4 b o (k₂ b o (Nat.ne_of_gt (by omega)) (Nat.ne_of_gt (by omega)) e)).snoc hch hpl hg (Nat.le_trans hlt2 hDa)
      refine ⟨2 - (i + 1), by omega, i + 1, h₆, _, m', _, some (.str ⟨#[ch]⟩ u), rfl, hlt, rfl, ?_, ?_, ?_, hl₆, ?_, ?_⟩
      · exact W.frame _ _ _ hst₂ fun b hb o e => hs₆.extBut b o (by rw [List.mem_singleton.mp hb]; exact Nat.ne_of_lt (by omega)) (hk4 b o e)
      · have z : h4.Ns (I + 1 + 1) m' := hn'.at' fun o e => hk4 _ o (k₂ _ o (Nat.ne_of_gt (by omega)) (Nat.ne_of_lt (by omega)) e)
        exact z.sameBut hs₆ (Nat.ne_of_gt (by omega))
      · obtain ⟨o, e, r⟩ := hc₂
        exact ⟨o, hs₆.extBut _ _ (Nat.ne_of_gt (by omega)) (hk4 _ _ e), r⟩
      · exact hr₄.keep fun b o l e => hs₆.extBut b o (Nat.ne_of_gt (by omega)) e
      · exact fun b o e => hs₆.extBut b o (Nat.ne_of_lt (Nat.lt_succ_of_lt (hold b o e))) (hk4 b o (hk₂ b o e))
    · have e : i = 2 := by omega
      subst e
      refine W.done _ _ _ hst' fun h₁ tk₁ hk₁ => ?_
      obtain ⟨Da, va, Db, vb, rfl, p1, g1, l1, p2, g2, l2⟩ := hr'
      have a1 : ∀ b, @LT.lt Nat _ I b → b ∉ [I] := fun b hb hm => by rw [List.mem_singleton.mp hm] at hb; exact Nat.lt_irrefl _ hb
      have a2 : ∀ b, @LT.lt Nat _ b I → b ∉ [I] := fun b hb hm => by rw [List.mem_singleton.mp hm] at hb; exact Nat.lt_irrefl _ hb
      have hLI : @LT.lt Nat _ env.locals I := by rw [← hI]; exact hns.lt
      have hnL : h₁.Ns env.locals m := hns.at' fun o e => hk₁ _ o (a2 _ hLI) (hk' _ o e)
      show wpAny _ A (assign (.Name y py) env (.ref (I + 1))) _ _ _
      refine wpAny_assign_Name (wpAny_storeName_local hy hnL (fun h₂ hn₂ hs₂ => ?_) hp)
      have hnC : h₁.Ns (I + 1 + 1) m' := hn'.at' fun o e => hk₁ _ o (a1 _ (by omega)) e
      refine ⟨m', hnC.sameBut hs₂ (Nat.ne_of_gt (by omega)), fun h'' hs'' => ?_⟩
      have k : ∀ b o, @LT.lt Nat _ I b → b ≠ I + 1 + 1 → h.get? b = some o → h''.get? b = some o := fun b o hb hb' e => hs''.extBut b o hb' (hs₂.extBut b o (Nat.ne_of_gt (Nat.lt_trans hLI hb)) (hk₁ b o (a1 b hb) e))
      refine hdone (I + 1) Da va Db vb h'' _ (by omega) (by omega) (by omega) (hn₂.sameBut hs'' (Nat.ne_of_lt (by omega))) (hd'.at fun o e => k _ _ (by omega) (Nat.ne_of_lt (by omega)) e) (p1.at fun o e => k _ _ (by omega) (Nat.ne_of_gt (by omega)) e) (p2.at fun o e => k _ _ (by omega) (Nat.ne_of_gt (by omega)) e) g1 g2 fun b o hb e => ?_
      have hbI := hold b o e
      exact hs''.extBut b o (Nat.ne_of_lt (by omega)) (hs₂.extBut b o hb (hk₁ b o (a2 b hbI) (hk' b o e)))
  refine codeAny_compStart_dict loop (W.self 0 _ _ _ hst4 loop)
end
end Mine
end

section
open PySem PySem.W PySem.Calls PyProof.Rows PyProof.V PySem.Spec
set_option maxRecDepth 100000
set_option maxHeartbeats 2000000
namespace Mine
section
variable {prog : Program} {w : World} {A : Around} {E : Value → Shared → Prop} {s : Shared} {env : Env} {h₀ : Heap} {target : Expr} {body : List Stmt} {Q : Flow → Shared → Prop}
def signItems (x : PySem.Str) (a b : Nat) : List Itm := (List.range' a b).map fun (i : Nat) => Itm.pairF (fun t => .int (i : Int) t) (.str ⟨#[x.cps.getD i 0]⟩)
theorem signItems_cons (x : PySem.Str) (a b : Nat) : signItems x a (b + 1) = Itm.pairF (fun t => .int (a : Int) t) (.str ⟨#[x.cps.getD a 0]⟩) :: signItems x (a + 1) b := by
  simp [signItems, List.range'_succ]

/-- the turns of a loop over the signs of a text with their places, by what holds between the turns -/
theorem rest_inv {x : PySem.Str} {ws : List (Addr × String)} (J : Nat → (PySem.Str → Option Value) → List (Addr × Obj) → Prop) (nn : Nat)
    (turn : ∀ i T t u h tk m news, i < nn → J i m news → IsTup h T #[.int (i : Int) t, .str ⟨#[x.cps.getD i 0]⟩ u] → Fr h₀ env.locals h m → AllObj ws (fun its => News h₀ env.locals h (its ++ news) →
      wpAny (model prog w) A (assign target env (.ref T)) (fun _ s₂ => wpAny (model prog w) A (execs body env) (UnrPostW h₀ env.locals { s with heap := h, toks := tk } its (fun m' n' => SubL [] n' ∧ J (i + 1) m' n') Q) E s₂) E { s with heap := h, toks := tk }))
    (done : ∀ h tk m news, J nn m news → Fr h₀ env.locals h m → News h₀ env.locals h news → Q .next { s with heap := h, toks := tk }) :
    ∀ k i m news, i + k = nn → J i m news → ItemsRest prog w A E h₀ env target body Q s ws [] (signItems x i k) m news
  | 0, i, m, news, e, hJ => by
    have e' : i = nn := e
    subst e'
    exact ItemsRest.zero fun h tk F N => done h tk m news hJ F N
  | k + 1, i, m, news, e, hJ => by
    rw [signItems_cons]
    refine ItemsRest.pairF fun T t y h tk hy ht F => ?_
    obtain ⟨u, rfl⟩ := hy.str_inv
    refine allObj_mono (turn i T t u h tk m news (by omega) hJ ht F) fun its hN N => ?_
    refine wpAny_mono (hN N) (fun _ s₂ h₂ => wpAny_mono h₂ (fun f s₃ h₃ => ?_) fun _ _ e => e) fun _ _ e => e
    have up : ∀ s₃, UnrEndW h₀ env.locals { s with heap := h, toks := tk } its (fun m' n' => SubL [] n' ∧ J (i + 1) m' n') s₃ →
        UnrEndW h₀ env.locals { s with heap := h, toks := tk } its (fun m' n' => SubL [] n' ∧ ItemsRest prog w A E h₀ env target body Q s ws [] (signItems x (i + 1) k) m' n') s₃ := by
      rintro s₃ ⟨h', tk', m', n', e1, F', N', off, _, hJ'⟩
      exact ⟨h', tk', m', n', e1, F', N', off, trivial, rest_inv J nn turn done k (i + 1) m' n' (by omega) hJ'⟩
    cases f with
    | ret v => exact h₃
    | brk => exact h₃
    | next => exact up _ h₃
    | cont => exact up _ h₃
where
  allObj_mono : ∀ {ws : List (Addr × String)} {k k' : List (Addr × Obj) → Prop}, AllObj ws k → (∀ its, k its → k' its) → AllObj ws k'
    | [], _, _, h, f => f _ h
    | _ :: ws, _, _, h, f => fun o ho => allObj_mono (ws := ws) (h o ho) fun its q => f _ q

theorem enumInv {elts : List Expr} {k : Nat} {pos : Pos} {x : PySem.Str} {t : Tok} {m₀ : PySem.Str → Option Value} {news : List (Addr × Obj)} (J : Nat → (PySem.Str → Option Value) → List (Addr × Obj) → Prop)
    (hh : A.handled = none) (hx : strIterType x = "str_ascii_iterator") (F : Fr h₀ env.locals s.heap m₀) (N : News h₀ env.locals s.heap news) (h0 : J 0 m₀ news)
    (turn : ∀ I i T t u h tk m nw, (∀ p ∈ news, p.1 < I) → i < x.cps.size → J i m nw → IsTup h T #[.int (i : Int) t, .str ⟨#[x.cps.getD i 0]⟩ u] → Fr h₀ env.locals h m → AllObj [(I + 1, "enumerate"), (I, "str_ascii_iterator")] (fun its => News h₀ env.locals h (its ++ nw) →
      wpAny (model prog w) A (assign (.Tuple elts k pos) env (.ref T)) (fun _ s₂ => wpAny (model prog w) A (execs body env) (UnrPostW h₀ env.locals { s with heap := h, toks := tk } its (fun m' n' => SubL [] n' ∧ J (i + 1) m' n') Q) E s₂) E { s with heap := h, toks := tk }))
    (done : ∀ h tk m nw, J x.cps.size m nw → Fr h₀ env.locals h m → News h₀ env.locals h nw → Q .next { s with heap := h, toks := tk }) :
    wpAny (model prog w) A (call (.type "enumerate") [.str x t]) (fun xv s₁ => wpAny (model prog w) A (pyIter xv) (fun it s₂ => TurnsAt prog w A h₀ env (.Tuple elts k pos) body Q E it s₂) E s₁) E s := by
  have hLs : @LT.lt Nat _ env.locals s.heap.objs.size := F.ns.lt
  refine call_enumerate_str fun h' hE hI hsz hk => ?_
  rw [hx] at hI
  refine wpAny_pyIter_enum hE ?_
  refine ktu_core (tk0 := s.toks) (keep := []) (xs := signItems x 0 x.cps.size) (KTurns.ofWalksU (WalksT.enumerateD (Draws.strAscii (A := A.in1) hh s.heap.objs.size x t) (s.heap.objs.size + 1) (Nat.succ_ne_self _) (by simp) (by simp)).toU)
    (by simp [signItems]) ?_ ?_ ?_ ?_ ?_ ?_ ?_ ?_ (F.keeps hk) (N.grown hk) trivial (rest_inv J x.cps.size (fun i T t u h tk m nw hi hJ hT F => turn _ i T t u h tk m nw (fun p hp => Heap.lt_size (N p hp).1) hi hJ hT F) done x.cps.size 0 m₀ news (Nat.zero_add _) h0)
  · rintro i v h ⟨T, vals, rfl, ⟨t, y, ⟨c, u, hc, rfl⟩, rfl⟩, hT⟩
    have hi : i < x.cps.size := by
      rcases Nat.lt_or_ge i x.cps.size with h | h
      · exact h
      · rw [Array.getElem?_eq_none h] at hc; cases hc
    refine ⟨Itm.pairF (fun t => .int (i : Int) t) (.str ⟨#[x.cps.getD i 0]⟩), by simp [signItems, hi], T, t, _, rfl, ?_, hT⟩
    rw [Array.getD_eq_getD_getElem?, hc]
    exact Flat.str _ _
  · rintro i h ⟨⟨old, he⟩, ⟨oi, hoi, hic, _⟩⟩
    have he' : ∃ oe : Obj, h.get? (s.heap.objs.size + 1) = some oe ∧ oe.cls = .type "enumerate" := ⟨_, he, rfl⟩
    obtain ⟨oe, h1, h2⟩ := he'
    refine ⟨[(s.heap.objs.size + 1, oe), (s.heap.objs.size, oi)], ⟨⟨rfl, h2⟩, ⟨rfl, hic⟩, trivial⟩, fun p hp => ?_⟩
    rcases List.mem_cons.mp hp with rfl | hp
    · exact h1
    · rw [List.mem_singleton.mp hp]; exact hoi
  · intro b hb
    have hb' : b = s.heap.objs.size + 1 ∨ b = s.heap.objs.size := by simpa using hb
    rcases hb' with rfl | rfl
    · exact ⟨by simp, ktu_new F (Nat.le_add_right _ _)⟩
    · exact ⟨by simp, ktu_new F (Nat.le_refl _)⟩
  · intro b hb
    simpa using hb
  · intro b hb
    exact .inl (by simpa using hb)
  · intro hI'
    have hb' : env.locals = s.heap.objs.size + 1 ∨ env.locals = s.heap.objs.size := by simpa using hI'
    rcases hb' with e | e
    · exact ktu_ne 1 hLs e
    · exact Nat.ne_of_lt hLs e
  · intro p hp hI'
    have hlt := Heap.lt_size (N p hp).1
    have hb' : p.1 = s.heap.objs.size + 1 ∨ p.1 = s.heap.objs.size := by simpa using hI'
    rcases hb' with e | e
    · exact ktu_ne 1 hlt e
    · exact Nat.ne_of_lt hlt e
  · exact ⟨⟨_, hE⟩, hI⟩
end
end Mine
end

section
open PySem PySem.W PySem.Calls PyProof.Rows
set_option maxRecDepth 100000
set_option maxHeartbeats 1000000
namespace Mine
def posI (text : PySem.Str) (ch n : Nat) : List Int := ((List.range n).filter fun j => text.cps.getD j 0 == ch).map fun (j : Nat) => (j : Int)
theorem posI_succ {text : PySem.Str} {ch i : Nat} : posI text ch (i + 1) = posI text ch i ++ (if (text.cps.getD i 0 == ch) = true then [(i : Int)] else []) := by
  unfold posI
  rw [List.range_succ, List.filter_append, List.map_append, List.filter_cons, List.filter_nil]
  cases text.cps.getD i 0 == ch <;> rfl
theorem posI_len {text : PySem.Str} {ch : Nat} (i : Nat) : (posI text ch i).length ≤ i := by
  unfold posI
  rw [List.length_map]
  exact Nat.le_trans (List.length_filter_le _ _) (Nat.le_of_eq List.length_range)
theorem posI_sorted {text : PySem.Str} {ch i : Nat} : (posI text ch i).Pairwise (· < ·) := by
  unfold posI
  rw [List.pairwise_map]
  exact (List.Pairwise.filter _ List.pairwise_lt_range).imp fun h => by omega
theorem posI_mem {text : PySem.Str} {ch i : Nat} {j : Int} (h : j ∈ posI text ch i) : 0 ≤ j ∧ j < (i : Int) := by
  unfold posI at h
  obtain ⟨a, ha, rfl⟩ := List.mem_map.mp h
  have := List.mem_range.mp (List.mem_filter.mp ha).1
  omega
theorem posI_filter {text : PySem.Str} {ch i : Nat} : ∀ d : Nat, (posI text ch (i + d)).filter (fun j => decide (j < (i : Int))) = posI text ch i
  | 0 => List.filter_eq_self.mpr fun j hj => by simpa using (posI_mem hj).2
  | d + 1 => by
    rw [show i + (d + 1) = (i + d) + 1 by omega, posI_succ, List.filter_append, posI_filter d]
    have : ¬ ((i + d : Nat) : Int) < (i : Int) := by omega
    split
    · rw [List.filter_cons_of_neg (by simpa using this), List.filter_nil, List.append_nil]
    · rw [List.filter_nil, List.append_nil]
theorem bi_take {ns : List Int} {k r : Int} (h0 : 0 ≤ r) (h1 : r ≤ (ns.length : Int)) (h : BI ns k r r) : ns.filter (fun j => decide (j < k)) = ns.take r.toNat := by
  conv => lhs; rw [← List.take_append_drop r.toNat ns]
  rw [List.filter_append]
  have a : (ns.take r.toNat).filter (fun j => decide (j < k)) = ns.take r.toNat := List.filter_eq_self.mpr fun j hj => by
    obtain ⟨i, hi, rfl⟩ := List.mem_iff_getElem.mp hj
    rw [List.length_take] at hi
    have := h.1 i (by omega)
    rw [List.getD_eq_getElem?_getD, List.getElem?_eq_getElem (by omega)] at this
    simpa using this
  have b : (ns.drop r.toNat).filter (fun j => decide (j < k)) = [] := List.filter_eq_nil_iff.mpr fun j hj => by
    obtain ⟨i, hi, rfl⟩ := List.mem_iff_getElem.mp hj
    rw [List.length_drop] at hi
    have := h.2 (r.toNat + i) (by omega) (by omega)
    rw [List.getD_eq_getElem?_getD, List.getElem?_eq_getElem (by omega)] at this
    simpa using this
  rw [a, b, List.append_nil]
def twI (text : PySem.Str) (ns : List Int) (k : Nat) : Int :=
  match (posI text (text.cps.getD k 0) k).getLast? with
  | none => 0
  | some j => ns.getD j.toNat 0
/-- numbers[0..k] of the law -/
def numsL (text : PySem.Str) (b : Int) : Nat → List Int
  | 0 => [1]
  | k + 1 => numsL text b k ++ [(numsL text b k).getD k 0 + b * ((numsL text b k).getD k 0 - twI text (numsL text b k) k)]
theorem numsL_len {text : PySem.Str} {b : Int} : ∀ k, (numsL text b k).length = k + 1
  | 0 => rfl
  | k + 1 => by rw [numsL, List.length_append, numsL_len k]; rfl
theorem tw_pos {text : PySem.Str} {ns : List Int} {ch i : Nat} {r : Int} (hi : i < 7) (hch : text.cps.getD i 0 = ch) (h0 : 0 ≤ r) (h1 : r ≤ ((posI text ch 7).length : Int)) (h : BI (posI text ch 7) (i : Int) r r) :
    posI text ch i = (posI text ch 7).take r.toNat := by
  have e := posI_filter (text := text) (ch := ch) (i := i) (7 - i)
  rw [show i + (7 - i) = 7 by omega, bi_take h0 h1 h] at e
  exact e.symm
theorem tw_no {text : PySem.Str} {ns : List Int} {ch i : Nat} {r : Int} (hi : i < 7) (hch : text.cps.getD i 0 = ch) (h0 : 0 ≤ r) (h1 : r ≤ ((posI text ch 7).length : Int)) (h : BI (posI text ch 7) (i : Int) r r) (hr : ¬ 0 < r) : twI text ns i = 0 := by
  have e := tw_pos (ns := ns) hi hch h0 h1 h
  have hr' : r.toNat = 0 := by omega
  rw [hr', List.take_zero] at e
  unfold twI
  rw [hch, e]
  rfl
theorem tw_yes {text : PySem.Str} {ns : List Int} {ch i : Nat} {r : Int} (hi : i < 7) (hch : text.cps.getD i 0 = ch) (h0 : 0 ≤ r) (h1 : r ≤ ((posI text ch 7).length : Int)) (h : BI (posI text ch 7) (i : Int) r r) (hr : 0 < r) :
    twI text ns i = ns.getD ((posI text ch 7).getD (r - 1).toNat 0).toNat 0 ∧ 0 ≤ (posI text ch 7).getD (r - 1).toNat 0 ∧ (posI text ch 7).getD (r - 1).toNat 0 < (i : Int) := by
  have e := tw_pos (ns := ns) hi hch h0 h1 h
  have hl : (r - 1).toNat < (posI text ch 7).length := by omega
  have hg : (posI text ch 7).getD (r - 1).toNat 0 = (posI text ch 7)[(r - 1).toNat] := by rw [List.getD_eq_getElem?_getD, List.getElem?_eq_getElem hl]; rfl
  have hm : (posI text ch 7)[(r - 1).toNat] ∈ posI text ch i := by
    rw [e, List.mem_take_iff_getElem]
    exact ⟨(r - 1).toNat, by omega, rfl⟩
  refine ⟨?_, ?_⟩
  · unfold twI
    rw [hch, e, List.getLast?_take]
    have : ¬ r.toNat = 0 := by omega
    rw [if_neg this, show r.toNat - 1 = (r - 1).toNat by omega, List.getElem?_eq_getElem hl, hg]
    rfl
  · rw [hg]
    exact posI_mem hm
end Mine
end

section
open PySem PySem.W PySem.Calls PyProof.Rows
set_option maxRecDepth 100000
set_option maxHeartbeats 2000000
namespace Mine
theorem cps_one (a b : Nat) : ((⟨#[a]⟩ : PySem.Str) == ⟨#[b]⟩) = (a == b) := by
  by_cases h : a = b
  · subst h; simp
  · have : ¬ ((⟨#[a]⟩ : PySem.Str) = ⟨#[b]⟩) := fun e => h (by have := congrArg (fun s : PySem.Str => s.cps.getD 0 0) e; simpa using this)
    rw [beq_false_of_ne this, beq_false_of_ne h]
theorem fresh_of {g h : Heap} {L c : Addr} {m : PySem.Str → Option Value} (F : Fr g L h m) (hc : @LE.le Nat _ h.objs.size c) : c ≠ L ∧ g.get? c = none := by
  refine ⟨fun e => ?_, ?_⟩
  · have := F.ns.lt
    rw [← e] at this
    exact Nat.lt_irrefl _ (Nat.lt_of_lt_of_le this hc)
  · cases q : g.get? c with
    | none => rfl
    | some o => exact absurd (Heap.lt_size (F.keep _ _ q)) (Nat.not_lt.mpr hc)
theorem news_fresh {g h h' : Heap} {L c : Addr} {m : PySem.Str → Option Value} {o : Obj} {nw : List (Addr × Obj)} (F : Fr g L h m) (N : News g L h nw) (hk : ∀ b o, h.get? b = some o → h'.get? b = some o) (hc : @LE.le Nat _ h.objs.size c) (e : h'.get? c = some o) : News g L h' ((c, o) :: nw) := fun p hp => by
  rcases List.mem_cons.mp hp with rfl | hp
  · exact ⟨e, fresh_of F hc⟩
  · exact ⟨hk _ _ (N p hp).1, (N p hp).2⟩
theorem news_tail {g h : Heap} {L : Addr} {a b : Addr × Obj} {nw : List (Addr × Obj)} (N : News g L h (a :: b :: nw)) : News g L h (a :: nw) := fun p hp => by
  rcases List.mem_cons.mp hp with rfl | hp
  · exact N _ (List.Mem.head _)
  · exact N _ (List.Mem.tail _ (List.Mem.tail _ hp))
theorem places_end {g h h' : Heap} {L D Da Db : Addr} {m m' : PySem.Str → Option Value} {o oa ob : Obj} {nw : List (Addr × Obj)} (F : Fr g L h m) (N : News g L h nw) (hk : ∀ b o, b ≠ L → h.get? b = some o → h'.get? b = some o)
    (hns : h'.Ns L m') (hD : @LE.le Nat _ h.objs.size D) (eD : h'.get? D = some o) (hA : @LE.le Nat _ h.objs.size Da) (eA : h'.get? Da = some oa) (hB : @LE.le Nat _ h.objs.size Db) (eB : h'.get? Db = some ob) :
    Fr g L h' m' ∧ News g L h' ((D, o) :: (Da, oa) :: (Db, ob) :: nw) := by
  refine ⟨⟨hns, fun b o e => hk b o (Nat.ne_of_lt (Nat.lt_of_lt_of_le (Heap.lt_size e) F.above)) (F.keep b o e), F.above⟩, fun p hp => ?_⟩
  rcases List.mem_cons.mp hp with rfl | hp
  · exact ⟨eD, fresh_of F hD⟩
  rcases List.mem_cons.mp hp with rfl | hp
  · exact ⟨eA, fresh_of F hA⟩
  rcases List.mem_cons.mp hp with rfl | hp
  · exact ⟨eB, fresh_of F hB⟩
  · exact ⟨hk _ _ (N p hp).2.1 (N p hp).1, (N p hp).2⟩
theorem base_bits {n : Int} (h : n ≤ 11) : Builtin.Int.intBits (2 ^ n.toNat) ≤ 64 := intBits_le_iff.mpr (by
  rw [Int.natAbs_pow]
  exact Nat.lt_of_le_of_lt (Nat.pow_le_pow_right (by decide) (show n.toNat ≤ 11 by omega)) (by decide))
/-- between two turns of the loop over enumerate(text) -/
def CntJ (lN D Da Db Lc : Addr) (oD oT : Obj) (va vb : List Value) (nA nB : Nat) (text : PySem.Str) (n : Int) (i : Nat) (m : PySem.Str → Option Value) (nw : List (Addr × Obj)) : Prop :=
  ∃ vs k tb tw, nw = [(lN, PySem.W.listOf (List.toArray vs) k), (D, oD), (Da, PySem.W.listOf (List.toArray va) nA), (Db, PySem.W.listOf (List.toArray vb) nB), (Lc, oT), (16, tabObj #[])] ∧ IntsAre vs (numsL text (2 ^ n.toNat) i) ∧
      (∀ p ∈ [(Str.ofString "numbers", Value.ref lN), (Str.ofString "places", Value.ref D), (Str.ofString "base", Value.int (2 ^ n.toNat) tb), (Str.ofString "width", Value.int n tw)], m p.1 = some p.2)
theorem CntJ.step {lN D Da Db Lc : Addr} {oD oT : Obj} {va vb vs : List Value} {nA nB k : Nat} {text : PySem.Str} {n x c : Int} {i : Nat} {m : PySem.Str → Option Value} {tb tw t : Tok} (h : IntsAre vs (numsL text (2 ^ n.toNat) i)) (hc : twI text (numsL text (2 ^ n.toNat) i) i = c)
    (hx : x = (numsL text (2 ^ n.toNat) i).getD (i : Int).toNat 0 + 2 ^ n.toNat * ((numsL text (2 ^ n.toNat) i).getD (i : Int).toNat 0 - c))
    (hm : ∀ p ∈ [(Str.ofString "numbers", Value.ref lN), (Str.ofString "places", Value.ref D), (Str.ofString "base", Value.int (2 ^ n.toNat) tb), (Str.ofString "width", Value.int n tw)], m p.1 = some p.2) :
    CntJ lN D Da Db Lc oD oT va vb nA nB text n (i + 1) m [(lN, PySem.W.listOf ((List.toArray vs).push (.int x t)) (k + 1)), (D, oD), (Da, PySem.W.listOf (List.toArray va) nA), (Db, PySem.W.listOf (List.toArray vb) nB), (Lc, oT), (16, tabObj #[])] := by
  refine ⟨vs ++ [.int x t], k + 1, tb, tw, by rw [List.push_toArray], ?_, hm⟩
  rw [numsL]
  rw [hx, Int.toNat_natCast, ← hc]
  exact h.append (.cons _ _ .nil)
theorem perm16 {h₀ h : Heap} {L : Addr} {a b c d e f : Addr × Obj} (N : News h₀ L h [a, b, c, d, e, f]) : News h₀ L h [f, a, b, c, d, e] := fun z hz => N z (by
  simp only [List.mem_cons, List.not_mem_nil, or_false] at hz ⊢
  rcases hz with rfl | rfl | rfl | rfl | rfl | rfl <;> simp)
theorem bits_eight {X W : Nat} {x n : Int} (hx : x = (X : Int)) (hn : n = (W : Int)) (hW : 7 ≤ W) (h1 : 2 ^ (7 * W) ≤ X) (h2 : X < 2 ^ (8 * W)) : ((Builtin.Int.intBits x : Nat) + n - 1 : Int).fdiv n = ((8 : Nat) : Int) := by
  subst hx hn
  have a1 : Builtin.Int.intBits (X : Int) ≤ 8 * W := intBits_le_iff.mpr (by rw [Int.natAbs_natCast]; exact h2)
  have a2 : ¬ Builtin.Int.intBits (X : Int) ≤ 7 * W := fun h => by
    have := intBits_le_iff.mp h
    rw [Int.natAbs_natCast] at this
    omega
  rw [Int.fdiv_eq_ediv_of_nonneg _ (by omega)]
  have e : ((Builtin.Int.intBits (X : Int) : Nat) : Int) + (W : Int) - 1 = ((Builtin.Int.intBits (X : Int) + W - 1 : Nat) : Int) := by omega
  rw [e, ← Int.natCast_ediv]
  congr 1
  refine Nat.div_eq_of_lt_le ?_ ?_
  · omega
  · omega
theorem fr_kst {h₀ h : Heap} {L : Addr} {m : PySem.Str → Option Value} {ps : List (PySem.Str × Value)} (hm : ∀ p ∈ ps, m p.1 = some p.2) (F : Fr h₀ L h m) : Fr h₀ L h (kstB m ps) := by
  have e : kstB m ps = m := funext fun z => kstB_eq hm fun _ => rfl
  rw [e]
  exact F
theorem counts_spec {w : World} {p : Program} {loose : List Str} {mean : ExcName → Option Value} {mg mb : Str → Option Value}
    {dp un : Nat} {gd : Option (List Code)} {cn : Str} {cs : Scope} {a : Addr} {ccd : Value} {cl : List (Str × Addr)} {outer : List Env} {A₀ : Around} {base h₀ : Heap} {L : Addr} {m : Str → Option Value} {s : Shared} {Q E : Value → Shared → Prop}
    {text : Str} {n : Int} {W : Nat} {tx tn : Tok} {rest : List (Addr × Obj)}
    (B : Below A₀ base outer h₀) (F : Fr h₀ L s.heap m) (N : News h₀ L s.heap ((16, tabObj #[]) :: rest)) (XK : (hd.heap_39 w.params).In h₀) (T : Top p loose mean mg mb h₀) (hcs : cs.kind = .function)
    (h16 : ∀ p ∈ rest, p.1 ≠ 16)
    (ht7 : text.cps.size = 7) (hab : ∀ (i : Nat) (c : Nat), text.cps[i]? = some c → c = 97 ∨ c = 98)
    (hcode : CodeHd h₀ 20 16) (hd1 : dp + 20 < recursionLimit) (hu : un + 160 < cLine) (hn : n = (W : Int)) (hn1 : 7 ≤ W) (hn2 : W ≤ 11)
    {X : Nat} (hX : (numsL text (2 ^ n.toNat) 7).getD (7 : Int).toNat 0 = (X : Int)) (hX1 : 2 ^ (7 * W) ≤ X) (hX2 : X < 2 ^ (8 * W))
    (hret : ∀ r c' oc vs1 t1 vs k h' tk', Fr h₀ L h' m → News h₀ L h' ((r, listOf vs.toArray k) :: (c', oc) :: (16, tabObj (tab1 c')) :: rest) → oc.data = .fields vs1 → vs1[1]? = some (.str inQual t1) →
      IntsAre vs ((digs W 8 X).map (fun (d : Nat) => (d : Int))) → (∀ p ∈ (16, tabObj #[]) :: rest, p.1 < r) → @LT.lt Nat _ r c' → Q (.ref r) { s with heap := h', toks := tk' }) :
    wpAny (model PySem.Challenge.rw_pg0114_01.row.prog w) (ktrTop dp un gd cn cs L a ccd cl outer) (call (.ref 42) [.str text tx, .int n tn]) Q E s := by
  k_with_none
  w_top off
  refine wpAny_call ?_
  have N0 : News h₀ L s.heap [(16, tabObj #[])] := fun q hq => N q (by rw [List.mem_singleton.mp hq]; exact List.Mem.head _)
  k_dflt (refine' enterC ?k1 ?k2 N0 ?k3 ?k5 ?kA ?kF ?kK ?k6 ?k7 ?k8 ?k9 ?kB ?kD ?_ ?c2 ?c3 ?c4; (case kA => exact rfl); (case kF => exact rfl); (case kK => assumption); (case k1 => k_asm); (case k2 => k_asm); (case k3 => k_asm); (case k5 => k_asm); (case k6 => k_is); (case k7 => k_is); (case k8 => dsimp only; omega); (case k9 => exact BindsTo.of_eq rfl); (case kB => exact rfl); (case kD => decide +kernel); (case c2 => exact rfl); (case c3 => exact rfl); (case c4 => exact rfl); k_whole; intro g' L' h' tk' cells' hLs hg' hst' F' N' Y' B' X' T' l1; (try k_lt l1); k_cells Y'; (try simp only [List.cons_append, List.nil_append] at N'); (try dsimp only); (try k_fold))
  have hnI1 : 7 ≤ n := by omega
  have hnI2 : n ≤ 11 := by omega
  (k_with "exec Assign cons DictComp" => refine halt ?_)
  k_steps
  unfold Halt
  rename Fr _ _ _ _ => F9
  rename News _ _ _ _ => N9
  rename Obj => oT
  rename (_ : Obj).data = Data.cell _ => ho9
  refine' dictCell (cl := [(Str.ofString "text", L' + 1)]) (fun ch va => IntsAre va.toList (posI text ch 7)) ?hsw ?hclos ?hkind ?hx ?hcells ?hpush ?hnames ?hy ?hp ?hh ?hdb ?main
  case hsw => with_unfolding_all rfl
  case hclos => with_unfolding_all rfl
  case hkind => rfl
  case hx => rfl
  case hcells => intro _; rfl
  case hpush => intro _; rfl
  case hnames => decide
  case hy => rfl
  case hp => rfl
  case hh => rfl
  case hdb => rfl
  case' main => refine wpAny_Constant_str ?_; refine' ⟨_, rfl, F9.ns, ?val, ?done⟩
  case val =>
    intro i ch u C c s3 E3 hch hC hc hcell hkp
    dsimp only at hC hc
    obtain ⟨h3, tk3, rfl, hk3⟩ := hkp
    obtain ⟨oc, hoc0, hoc⟩ := hcell
    have F3 : Fr g' L' h3 _ := F9.keeps hk3
    have N3 : News g' L' h3 _ := news_fresh F9 N9 hk3 hc hoc0
    have ho9' : oT.data = Data.cell (some (.str text tx)) := ho9
    clear F9 N9 ho9
    dsimp only
    refine' pairComp (cl := [(Str.ofString "letter", c)]) (Acc := fun i ys => IntsAre ys (posI text ch i)) (Rel := fun i x y => ∃ t c' u, x = .int i t ∧ text.cps[i]? = some c' ∧ y = .str ⟨#[c']⟩ u) (F := fun i z => ∃ t, z = .int i t) (pz := fun i => text.cps.getD i 0 == ch) ?phh ?phclos ?phcell ?phkind ?phnames ?pha ?phb ?phab ?pacc0 ?paccL ?pmain
    case phh => rfl
    case phclos => with_unfolding_all rfl
    case phcell => decide
    case phkind => rfl
    case phnames => decide
    case pha => rfl
    case phb => rfl
    case phab => decide
    case pacc0 => exact .nil
    case paccL => exact fun i ys h => by rw [IntsAre.length h]; exact posI_len i
    case pmain =>
      (k_with "call type:enumerate" => refine halt ?_)
      k_steps
      unfold Halt
      refine call_enumerate_str fun h4 hEn hIt hsz4 hk4 => ?_
      dsimp only [qk] at hEn hIt hsz4 hk4 ⊢
      have hasc : strIterType text = "str_ascii_iterator" := by
        have e : text.cps.all (· < 128) = true := Array.all_eq_true.mpr fun i hi => by
          have := hab i text.cps[i] (by simp [hi])
          rcases this with e | e <;> rw [e] <;> rfl
        simp [strIterType, e]
      rw [hasc] at hIt
      refine' ⟨h3.objs.size + 1, _, _, _, _, _, _, rfl, WalksT.enumerateD (Draws.strAscii (A := Around.in1 _) rfl h3.objs.size text tx) (h3.objs.size + 1) (Nat.succ_ne_self _) (by simp) (by simp), ?psz, ?pst, ?pfp, ?ppt, ?ptest, ?pelt, ?pF, ?pT, ?pdone⟩
      case psz => rw [ht7]; decide
      case pst => exact ⟨⟨_, hEn⟩, hIt⟩
      case pfp =>
        intro b hb
        simp only [List.mem_cons, List.not_mem_nil, or_false] at hb
        have hsz5 : @Eq Nat h4.objs.size (h3.objs.size + 2) := hsz4
        rcases hb with rfl | rfl
        · show @LT.lt Nat _ (h3.objs.size + 1) h4.objs.size
          omega
        · show @LT.lt Nat _ h3.objs.size h4.objs.size
          omega
      case ppt =>
        rintro i vals ⟨t, x, ⟨c', u', h1, rfl⟩, rfl⟩
        exact ⟨_, _, rfl, t, c', u', rfl, h1, rfl⟩
      case ptest =>
        intro C2 j x y s4 m4 E4 hC2 hj hR hns ha4 hb4 hk5
        obtain ⟨t, c', u', rfl, hc', rfl⟩ := hR
        obtain ⟨oC2, hoC, hNs⟩ := LCg.ns_obj hns
        have hk35 : ∀ b o, h3.get? b = some o → s4.heap.get? b = some o := fun b o e => hk5 b o (by
          have := Heap.lt_size e
          simp only [List.mem_cons, List.not_mem_nil, or_false, not_or]
          exact ⟨Nat.ne_of_lt (Nat.lt_succ_of_lt this), Nat.ne_of_lt this⟩) (hk4 b o e)
        have F5 : Fr g' L' s4.heap _ := F3.keeps hk35
        have N5 : News g' L' s4.heap _ := news_fresh F3 N3 hk35 (Nat.le_trans (Nat.le_trans (Nat.le_add_right _ 2) (Nat.le_of_eq hsz4.symm)) hC2) hoC
        clear F3 N3
        refine wpAny_tests_one ?_
        k_steps
        · rw [Array.getD_eq_getD_getElem?, hc']
          exact cps_one c' ch
        · exact ⟨_, _, rfl, fun _ _ e => e⟩
      case pelt =>
        intro C2 j x y s4 m4 E4 hC2 hj hR _ hns ha4 hb4 hk5
        obtain ⟨t, c', u', rfl, hc', rfl⟩ := hR
        obtain ⟨oC2, hoC, hNs⟩ := LCg.ns_obj hns
        have hk35 : ∀ b o, h3.get? b = some o → s4.heap.get? b = some o := fun b o e => hk5 b o (by
          have := Heap.lt_size e
          simp only [List.mem_cons, List.not_mem_nil, or_false, not_or]
          exact ⟨Nat.ne_of_lt (Nat.lt_succ_of_lt this), Nat.ne_of_lt this⟩) (hk4 b o e)
        have F5 : Fr g' L' s4.heap _ := F3.keeps hk35
        have N5 : News g' L' s4.heap _ := news_fresh F3 N3 hk35 (Nat.le_trans (Nat.le_trans (Nat.le_add_right _ 2) (Nat.le_of_eq hsz4.symm)) hC2) hoC
        clear F3 N3
        k_steps
        exact ⟨_, _, rfl, fun _ _ e => e⟩
      case pF =>
        intro i ys hi hA hz
        rw [posI_succ, hz]
        simpa using hA
      case pT =>
        rintro i ys z hi hA hz ⟨t, rfl⟩
        rw [posI_succ, hz]
        exact hA.append (.cons _ _ .nil)
      case pdone =>
        intro D h' tk ys hD hpl hA hk
        rw [ht7] at hA
        exact ⟨D, ys, rfl, Nat.le_trans (Nat.le_trans (Nat.le_add_right _ 2) (Nat.le_of_eq hsz4.symm)) hD, hpl, hA, h', tk, rfl, fun b o e => hk b o (by
          have := Heap.lt_size e
          simp only [List.mem_cons, List.not_mem_nil, or_false, not_or]
          exact ⟨Nat.ne_of_lt (Nat.lt_succ_of_lt this), Nat.ne_of_lt this⟩) (hk4 b o e)⟩
  case done =>
    intro D Da va Db vb h5 tk5 hD hDa hDb hns hdict hpa hpb ga gb hk5
    dsimp only at hD hDa hDb hk5
    obtain ⟨va⟩ := va
    obtain ⟨vb⟩ := vb
    have ga' : IntsAre va (posI text 97 7) := ga
    have gb' : IntsAre vb (posI text 98 7) := gb
    clear ga gb
    obtain ⟨oD, hoD, hisD⟩ := Heap.dictOf_iff.mp hdict
    obtain ⟨nA, hoA⟩ := hpa
    obtain ⟨nB, hoB⟩ := hpb
    obtain ⟨F5, N5⟩ := places_end F9 N9 hk5 hns hD hoD hDa hoA hDb hoB
    have hL16 : @LT.lt Nat _ 16 _ := Nat.lt_trans l1 F9.ns.lt
    clear F9 N9 hdict hns
    have ho9' : oT.data = Data.cell (some (.str text tx)) := ho9
    clear ho9
    (k_with "exec For Tuple Call" => (k_here; (rename Fr _ _ _ _ => lF'); (with_unfolding_all refine' For_turns lF' ?_; k_whole)))
    k_steps
    unfold Halt
    rename Fr _ _ _ _ => F9
    rename News _ _ _ _ => N9
    rename_i lN h9a l9 h9b
    with_unfolding_all refine' enumInv (CntJ lN D Da Db (L' + 1) oD oT va vb nA nB text n) ?hh2 ?hx2 ?F2 ?N2 ?h02 ?turn2 ?done2
    case hh2 => rfl
    case F2 => exact F9
    case N2 => exact N9
    case hx2 =>
      have e : text.cps.all (· < 128) = true := Array.all_eq_true.mpr fun i hi => by
        have := hab i text.cps[i] (by simp [hi])
        rcases this with e | e <;> rw [e] <;> rfl
      simp [strIterType, e]
    case h02 => exact ⟨[.int 1 tk5], 0, _, _, rfl, .cons _ _ .nil, by kst_all⟩
    case turn2 =>
      clear F9 N9
      rintro I i T t u h tk m nw hI hi ⟨vs, k, tb, tw, rfl, hints, hm⟩ hT F7
      have F8 := fr_kst hm F7
      clear F7
      dsimp only [kstB] at F8
      k_lt hI
      ktu_objs
      have hch : text.cps.getD i 0 = 97 ∨ text.cps.getD i 0 = 98 := hab i _ (by simp [hi])
      have hin : @LT.lt Nat _ i 7 := by omega
      have hnl : (numsL text (2 ^ n.toNat) i).length = i + 1 := numsL_len i
      (k_with "binaryOp Mult int int" => (with_reducible refine PyProof.Rows.mul_int ?_ (IntMulOk.of_left (base_bits hnI2))))
      rcases hch with hch | hch
      · rw [hch] at hT
        (k_with "call ref" => refine halt ?_)
        k_steps
        unfold Halt
        rename Fr _ _ _ _ => F9
        rename News _ _ _ _ => N9
        refine' bis_spec _ _ _ _ _ _ _ _ _ _ _ _ _ _ _ _ _ Da va (posI text 97 7) _ _ B' F9 X' T' ?b1 ?b2 ?b3 ?b4 ga' ?b5 ?b6 ?b7
        case b1 => rfl
        case b2 => dsimp only; omega
        case b3 => dsimp only; omega
        case b4 => exact ⟨PySem.W.listOf (List.toArray va) nA, (N9 (Da, PySem.W.listOf (List.toArray va) nA) (by simp)).1, rfl, _, rfl⟩
        case b5 => exact posI_sorted
        case b6 => exact Nat.le_trans (posI_len 7) (by decide)
        case b7 =>
          intro r tr h8 tk8 hr0 hr1 hBI hk8
          have F8 := F9.keeps hk8
          have N8 := N9.grown hk8
          clear F9 N9
          dsimp only at F8
          by_cases hr : 0 < r
          · have hlen7 : (posI text 97 7).length ≤ 7 := posI_len 7
            obtain ⟨ht1, ht2, ht3⟩ := tw_yes (ns := numsL text (2 ^ n.toNat) i) hin hch hr0 hr1 hBI hr
            k_steps
            exact CntJ.step hints ht1 rfl (by kst_all)
          · have ht1 := tw_no (ns := numsL text (2 ^ n.toNat) i) hin hch hr0 hr1 hBI hr
            k_steps
            exact CntJ.step hints ht1 rfl (by kst_all)
      · rw [hch] at hT
        (k_with "call ref" => refine halt ?_)
        k_steps
        unfold Halt
        rename Fr _ _ _ _ => F9
        rename News _ _ _ _ => N9
        refine' bis_spec _ _ _ _ _ _ _ _ _ _ _ _ _ _ _ _ _ Db vb (posI text 98 7) _ _ B' F9 X' T' ?b1 ?b2 ?b3 ?b4 gb' ?b5 ?b6 ?b7
        case b1 => rfl
        case b2 => dsimp only; omega
        case b3 => dsimp only; omega
        case b4 => exact ⟨PySem.W.listOf (List.toArray vb) nB, (N9 (Db, PySem.W.listOf (List.toArray vb) nB) (by simp)).1, rfl, _, rfl⟩
        case b5 => exact posI_sorted
        case b6 => exact Nat.le_trans (posI_len 7) (by decide)
        case b7 =>
          intro r tr h8 tk8 hr0 hr1 hBI hk8
          have F8 := F9.keeps hk8
          have N8 := N9.grown hk8
          clear F9 N9
          dsimp only at F8
          by_cases hr : 0 < r
          · have hlen7 : (posI text 98 7).length ≤ 7 := posI_len 7
            obtain ⟨ht1, ht2, ht3⟩ := tw_yes (ns := numsL text (2 ^ n.toNat) i) hin hch hr0 hr1 hBI hr
            k_steps
            exact CntJ.step hints ht1 rfl (by kst_all)
          · have ht1 := tw_no (ns := numsL text (2 ^ n.toNat) i) hin hch hr0 hr1 hBI hr
            k_steps
            exact CntJ.step hints ht1 rfl (by kst_all)
    case done2 =>
      clear F9 N9
      rintro h6 tk6 m6 nw ⟨vs, k, tb, tw, rfl, hints, hm⟩ F7 N7
      have F8 := fr_kst hm F7
      clear F7
      dsimp only [kstB] at F8
      rw [ht7] at hints
      have hnl : (numsL text (2 ^ n.toNat) 7).length = 8 := numsL_len 7
      (k_with "call ref" => refine halt ?_)
      k_steps
      unfold Halt
      rename Fr _ _ _ _ => F9
      rename News _ _ _ _ => N9
      have N8 := perm16 N9
      clear N9
      have hDL : @LT.lt Nat _ 16 D ∧ @LT.lt Nat _ 16 Da ∧ @LT.lt Nat _ 16 Db := ⟨Nat.lt_of_lt_of_le hL16 hD, Nat.lt_of_lt_of_le hL16 hDa, Nat.lt_of_lt_of_le hL16 hDb⟩
      refine' int2_first (X := X) (D := 8) (W := W) B' F9 N8 X' T' ?q1 ?q2 (hcode.keeps hst') ?q3 ?q4 hn hn1 hn2 ?q5 ?q6 ?q7 ?q8 ?q9 ?q10 ?q11
      case q1 => rfl
      case q2 =>
        intro p hp
        simp only [List.mem_cons, List.not_mem_nil, or_false] at hp
        obtain ⟨d1, d2, d3⟩ := hDL
        rcases hp with rfl | rfl | rfl | rfl | rfl
        · exact Nat.ne_of_gt (by omega)
        · exact Nat.ne_of_gt d1
        · exact Nat.ne_of_gt d2
        · exact Nat.ne_of_gt d3
        · exact Nat.ne_of_gt (by omega)
      case q3 => dsimp only; omega
      case q4 => dsimp only; omega
      case q5 => exact hX
      case q6 => exact Nat.lt_of_lt_of_le (Nat.pow_pos (by decide)) hX1
      case q7 => exact ⟨Nat.lt_of_lt_of_le hX2 (Nat.pow_le_pow_right (by decide) (by omega))⟩
      case q8 => exact bits_eight hX hn hn1 hX1 hX2
      case q9 => decide
      case q10 => decide
      case q11 =>
        intro r c' oc vs1 t1 vs2 k2 h8 tk8 F8 N8' hoc hoc1 hint hlt hrc
        clear F9
        (try dsimp only)
        k_steps
        all_goals (try dsimp only [qk])
        have w1 : @LT.lt Nat _ L' r := Nat.lt_trans (Nat.lt_succ_self _) (hlt (L' + 1, oT) (by simp))
        obtain ⟨c1, c2, c3⟩ := int2_close F N h16 hg' hLs F8 N8' (List.Mem.head _) (List.Mem.tail _ (List.Mem.head _)) (List.Mem.tail _ (List.Mem.tail _ (List.Mem.head _))) w1 (Nat.lt_trans w1 hrc)
        exact hret _ _ _ _ _ _ _ _ _ c1 c2 hoc hoc1 hint c3 hrc
end Mine
end

section
open PySem PySem.W PySem.Calls PyProof.Rows
set_option maxRecDepth 100000
set_option maxHeartbeats 2000000
namespace Mine
def code (b : Bool) : Nat := if b then 98 else 97
def letter (b : Bool) : PySem.Str := ⟨#[code b]⟩
def tx (bs : List Bool) : PySem.Str := ⟨(bs.map code).toArray⟩
def allB : Nat → List (List Bool)
  | 0 => [[]]
  | n + 1 => (allB n).flatMap fun l => [false :: l, true :: l]
theorem mem_allB : ∀ {n : Nat} {l : List Bool}, l.length = n → l ∈ allB n
  | 0, [], _ => by simp [allB]
  | n + 1, b :: l, h => by
    have := mem_allB (n := n) (l := l) (by simpa using h)
    simp only [allB, List.mem_flatMap]
    exact ⟨l, this, by cases b <;> simp⟩
/-- one more than the place of the next c at b or behind, 0 for none -/
def nxGo (c : Bool) : List Bool → Nat → Nat → Nat
  | [], _, _ => 0
  | x :: r, 0, p => if x == c then p + 1 else nxGo c r 0 (p + 1)
  | _ :: r, k + 1, p => nxGo c r k (p + 1)
def nx (bs : List Bool) (b : Nat) (c : Bool) : Nat := nxGo c bs b 0
def leftI (bs : List Bool) : Nat → List Bool → Bool
  | _, [] => true
  | b, c :: w => if nx bs b c = 0 then false else leftI bs (nx bs b c) w

open PySem.StrLaws PySem.Builtin PySem.Builtin.Str in
theorem occ_stay (s sub : PySem.Str) (hi : Nat) : ∀ (l : List Nat) (st : Array Nat × Nat), ¬ st.fst.size < 1 → (forIn l st (occBody s sub hi 1)).run.fst = st.fst
  | [], st, h => rfl
  | a :: l, st, h => by
    rw [List.forIn_cons]
    unfold occBody
    rw [if_neg fun q => h q.1.1.1]
    exact occ_stay s sub hi l _ h
open PySem.StrLaws PySem.Builtin PySem.Builtin.Str in
theorem occ_first (s sub : PySem.Str) (hi : Nat) : ∀ (l : List Nat) (free : Nat), (∀ i ∈ l, free ≤ i) →
    (forIn l ((#[] : Array Nat), free) (occBody s sub hi 1)).run.fst.toList = (l.find? fun i => decide (i + sub.length ≤ hi ∧ subAt s sub i = true)).toList
  | [], free, _ => rfl
  | a :: l, free, hf => by
    rw [List.forIn_cons]
    have ha : free ≤ a := hf a (List.mem_cons_self ..)
    by_cases hc : a + sub.length ≤ hi ∧ subAt s sub a = true
    · have c1 : (((#[] : Array Nat), free).fst.size < 1 ∧ ((#[] : Array Nat), free).snd ≤ a) ∧ a + sub.length ≤ hi := ⟨⟨by simp, ha⟩, hc.1⟩
      rw [List.find?_cons_of_pos (by simpa using hc)]
      unfold occBody
      rw [if_pos ⟨c1, hc.2⟩]
      have e := occ_stay s sub hi l ((#[] : Array Nat).push a, a + sub.length) (by simp)
      unfold occBody at e
      exact (congrArg Array.toList e).trans rfl
    · have c2 : ¬ (((((#[] : Array Nat), free).fst.size < 1 ∧ ((#[] : Array Nat), free).snd ≤ a) ∧ a + sub.length ≤ hi) ∧ subAt s sub a = true) := fun h => hc ⟨h.1.2, h.2⟩
      rw [List.find?_cons_of_neg (by simpa using hc)]
      unfold occBody
      rw [if_neg c2]
      have ih := occ_first s sub hi l free (fun i hi' => hf i (List.mem_cons_of_mem _ hi'))
      unfold occBody at ih
      exact ih
open PySem.StrLaws PySem.Builtin PySem.Builtin.Str in
theorem occ_find (s sub : PySem.Str) (lo hi : Nat) : occurrences s sub lo hi 1 = ((List.range' lo (hi + 1 - lo)).find? fun i => decide (i + sub.length ≤ hi ∧ subAt s sub i = true)).toList := by
  rw [occ_eq]
  exact occ_first s sub hi _ lo fun i hi' => (List.mem_range'_1.mp hi').1
theorem tx_len (bs : List Bool) : (tx bs).length = bs.length := by simp [tx, PySem.Str.length]
theorem tx_get (bs : List Bool) (i : Nat) (c : Bool) : (tx bs).cps.toList[i]? = some (code c) ↔ bs[i]? = some c := by
  simp only [tx, List.getElem?_map]
  cases h : bs[i]? with
  | none => simp
  | some b => cases b <;> cases c <;> simp [code]
theorem nx_cheap : ∀ bs ∈ allB 7, ∀ b ∈ List.range 8, ∀ c ∈ [false, true], (match ((List.range' b (8 - b)).find? fun i => bs[i]? == some c) with | some k => k + 1 | none => 0) = nx bs b c ∧ nx bs b c ≤ 7 := by decide +kernel
open PySem.StrLaws PySem.Builtin PySem.Builtin.Str in
theorem find3_nx {bs : List Bool} {b : Nat} {c : Bool} (hl : bs.length = 7) (hb : b ≤ 7) : Txt.find3 (tx bs) ⟨#[code c]⟩ (b : Int) + 1 = (nx bs b c : Int) ∧ nx bs b c ≤ 7 := by
  obtain ⟨h1, h2⟩ := nx_cheap bs (mem_allB hl) b (List.mem_range.mpr (by omega)) c (by cases c <;> simp)
  refine ⟨?_, h2⟩
  rw [← h1]
  unfold Txt.find3
  have e : fromIndex (tx bs).length (b : Int) = b := by
    unfold fromIndex
    rw [if_neg (by omega)]
    omega
  rw [e, occ_find, tx_len, hl]
  have ep : (fun i => decide (i + (⟨#[code c]⟩ : PySem.Str).length ≤ 7 ∧ subAt (tx bs) ⟨#[code c]⟩ i = true)) = fun i => bs[i]? == some c := by
    funext i
    have := (subAt_one (tx bs) (code c) i).trans (tx_get bs i c)
    rw [tx_len, hl] at this
    rw [Bool.eq_iff_iff, decide_eq_true_eq, this, beq_iff_eq]
  rw [ep]
  cases (List.range' b (7 + 1 - b)).find? fun i => bs[i]? == some c with
  | none => rfl
  | some k => simp
open PySem.StrLaws PySem.Builtin PySem.Builtin.Str in
theorem find3_nil {bs : List Bool} {b : Nat} (hl : bs.length = 7) (hb : b ≤ 7) : Txt.find3 (tx bs) (Str.ofString "") (b : Int) = (b : Int) := by
  unfold Txt.find3
  have e : fromIndex (tx bs).length (b : Int) = b := by
    unfold fromIndex
    rw [if_neg (by omega)]
    omega
  rw [e, occ_find, tx_len, hl, show 7 + 1 - b = (7 - b) + 1 by omega, List.range'_succ, List.find?_cons_of_pos]
  · rfl
  · have z : (Str.ofString "") = ⟨#[]⟩ := rfl
    rw [z, decide_eq_true_eq]
    refine ⟨hb, ?_⟩
    rw [subAt_eq]
    simp [PySem.Str.length]
theorem codes_tx (w : List Bool) : KStt.codes (tx w) = w.map fun c => (code c : Int) := by
  unfold KStt.codes tx
  simp [Function.comp_def]
theorem left_leftI {bs : List Bool} (hl : bs.length = 7) : ∀ (w : List Bool) (b : Nat), b ≤ 7 → ((w.map fun c => (code c : Int)).foldl (leftF (tx bs)) (some (b : Int))).isSome = leftI bs b w
  | [], b, _ => rfl
  | c :: w, b, hb => by
    obtain ⟨h1, h2⟩ := find3_nx (c := c) hl hb
    rw [List.map_cons, List.foldl_cons, leftI]
    have e : leftF (tx bs) (some (b : Int)) (code c : Int) = if nx bs b c = 0 then none else some (nx bs b c : Int) := by
      unfold leftF
      simp only [Option.bind_some, Int.toNat_natCast, h1]
      by_cases h : nx bs b c = 0 <;> simp [h]
    rw [e]
    by_cases h : nx bs b c = 0
    · rw [if_pos h, if_pos h, leftF_none]; rfl
    · rw [if_neg h, if_neg h]; exact left_leftI hl w _ h2
theorem leftB_leftI {bs w : List Bool} (hl : bs.length = 7) : leftB (tx bs) (tx w) = leftI bs 0 w := by
  unfold leftB
  rw [codes_tx]
  exact left_leftI hl w 0 (by omega)
theorem ell_leftI {bs : List Bool} (hl : bs.length = 7) : ∀ (w : List Bool) (b : Nat), b ≤ 7 → ((w.map letter ++ [Str.ofString ""]).foldl (ellF (tx bs)) (some (b : Int))).isSome = leftI bs b w
  | [], b, hb => by
    show (ellF (tx bs) (some (b : Int)) (Str.ofString "")).isSome = true
    unfold ellF
    simp only [Option.bind_some, find3_nil hl hb]
    rw [if_neg (by omega)]
    rfl
  | c :: w, b, hb => by
    obtain ⟨h1, h2⟩ := find3_nx (c := c) hl hb
    rw [List.map_cons, List.cons_append, List.foldl_cons, leftI]
    have e : ellF (tx bs) (some (b : Int)) (letter c) = if nx bs b c = 0 then none else some (nx bs b c : Int) := by
      unfold ellF letter
      simp only [Option.bind_some]
      by_cases h : nx bs b c = 0
      · rw [if_pos h, if_pos (by omega)]
      · rw [if_neg h, if_neg (by omega)]
        congr 1
    rw [e]
    by_cases h : nx bs b c = 0
    · rw [if_pos h, if_pos h, ellF_none]; rfl
    · rw [if_neg h, if_neg h]; exact ell_leftI hl w _ h2
theorem ellB_leftI {bs w : List Bool} (hl : bs.length = 7) : ellB (tx bs) (Str.ofString "" :: (w.map letter ++ [Str.ofString ""])) = leftI bs 0 w := by
  unfold ellB
  rw [List.foldl_cons]
  have e : ellF (tx bs) (some 0) (Str.ofString "") = some ((0 : Nat) : Int) := by
    unfold ellF
    have := find3_nil (b := 0) hl (by omega)
    simp only [Option.bind_some]
    rw [show (0 : Int) = ((0 : Nat) : Int) from rfl, this]
    rfl
  rw [e]
  exact ell_leftI hl w 0 (by omega)
end Mine
end

section
open PySem PySem.W PySem.Calls PyProof.Rows
set_option maxRecDepth 100000
set_option maxHeartbeats 2000000
namespace Mine
/-- the number ahead of the last place of ch among the first k signs -/
def lastV (text : PySem.Str) (ns : List Int) (ch k : Nat) : Int :=
  match (posI text ch k).getLast? with
  | none => 0
  | some j => ns.getD j.toNat 0
theorem lastV_zero (text : PySem.Str) (ns : List Int) (ch : Nat) : lastV text ns ch 0 = 0 := rfl
theorem lastV_hit {text : PySem.Str} {ns : List Int} {ch k : Nat} (h : text.cps.getD k 0 = ch) : lastV text ns ch (k + 1) = ns.getD k 0 := by
  unfold lastV
  rw [posI_succ, if_pos (by simp [h]), List.getLast?_append]
  rfl
theorem lastV_miss {text : PySem.Str} {ns : List Int} {ch k : Nat} (h : text.cps.getD k 0 ≠ ch) : lastV text ns ch (k + 1) = lastV text ns ch k := by
  unfold lastV
  rw [posI_succ, if_neg (by simpa using h), List.append_nil]
theorem lastV_more {text : PySem.Str} {ns ms : List Int} {ch k : Nat} (h : k ≤ ns.length) : lastV text (ns ++ ms) ch k = lastV text ns ch k := by
  unfold lastV
  cases e : (posI text ch k).getLast? with
  | none => rfl
  | some j =>
    have hj := posI_mem (List.mem_of_getLast? e)
    show (ns ++ ms).getD j.toNat 0 = ns.getD j.toNat 0
    rw [List.getD_eq_getElem?_getD, List.getD_eq_getElem?_getD, List.getElem?_append_left (by omega)]
/-- the last number, letter by letter: the number so far, and those ahead of the last a and the last b -/
def numF (b : Nat) : List Bool → Nat → Nat → Nat → Nat
  | [], c, _, _ => c
  | false :: r, c, la, lb => numF b r (c + b * (c - la)) c lb
  | true :: r, c, la, lb => numF b r (c + b * (c - lb)) la c
theorem numF_eq (b : Nat) (text : PySem.Str) : ∀ (l : List Bool) (k c la lb : Nat), (∀ i x, l[i]? = some x → text.cps.getD (k + i) 0 = code x) → la ≤ c → lb ≤ c →
    (numsL text (b : Int) k).getD k 0 = (c : Int) → lastV text (numsL text (b : Int) k) 97 k = (la : Int) → lastV text (numsL text (b : Int) k) 98 k = (lb : Int) →
    (numsL text (b : Int) (k + l.length)).getD (k + l.length) 0 = (numF b l c la lb : Int)
  | [], k, c, la, lb, _, _, _, hc, _, _ => hc
  | x :: r, k, c, la, lb, hx, ha, hb, hc, hla, hlb => by
    have hx0 : text.cps.getD k 0 = code x := hx 0 x rfl
    have htw : twI text (numsL text (b : Int) k) k = lastV text (numsL text (b : Int) k) (code x) k := by rw [← hx0]; rfl
    have hlen : (numsL text (b : Int) k).length = k + 1 := numsL_len k
    have hnew : (numsL text (b : Int) (k + 1)).getD (k + 1) 0 = (c : Int) + b * ((c : Int) - lastV text (numsL text (b : Int) k) (code x) k) := by
      rw [numsL, List.getD_eq_getElem?_getD, List.getElem?_append_right (by omega), hlen, Nat.sub_self, hc, htw]
      rfl
    have hold : (numsL text (b : Int) (k + 1)).getD k 0 = (c : Int) := by
      rw [numsL, List.getD_eq_getElem?_getD, List.getElem?_append_left (by omega), ← List.getD_eq_getElem?_getD, hc]
    have more : ∀ ch, lastV text (numsL text (b : Int) (k + 1)) ch k = lastV text (numsL text (b : Int) k) ch k := fun ch => by
      rw [numsL]
      exact lastV_more (by omega)
    have e : k + (x :: r).length = k + 1 + r.length := by rw [List.length_cons]; omega
    have hr : ∀ i y, r[i]? = some y → text.cps.getD (k + 1 + i) 0 = code y := fun i y h => by
      have := hx (i + 1) y (by simpa using h)
      rwa [show k + (i + 1) = k + 1 + i by omega] at this
    rw [e]
    cases x with
    | false =>
      refine numF_eq b text r (k + 1) (c + b * (c - la)) c lb hr (Nat.le_add_right _ _) (Nat.le_trans hb (Nat.le_add_right _ _)) ?_ ?_ ?_
      · rw [hnew, show code false = 97 from rfl, hla, ← Int.ofNat_sub ha]
        simp
      · rw [lastV_hit (by rw [hx0]; rfl), hold]
      · rw [lastV_miss (by rw [hx0]; decide), more, hlb]
    | true =>
      refine numF_eq b text r (k + 1) (c + b * (c - lb)) la c hr (Nat.le_trans ha (Nat.le_add_right _ _)) (Nat.le_add_right _ _) ?_ ?_ ?_
      · rw [hnew, show code true = 98 from rfl, hlb, ← Int.ofNat_sub hb]
        simp
      · rw [lastV_miss (by rw [hx0]; decide), more, hla]
      · rw [lastV_hit (by rw [hx0]; rfl), hold]
theorem nums_numF {bs : List Bool} (b : Nat) (hb : bs.length = 7) : (numsL (tx bs) (b : Int) 7).getD 7 0 = (numF b bs 1 0 0 : Int) := by
  have := numF_eq b (tx bs) bs 0 1 0 0 (fun i x h => by
    rw [Nat.zero_add, Array.getD_eq_getD_getElem?]
    have := (tx_get bs i x).mpr h
    rw [Array.getElem?_toList] at this
    rw [this]
    rfl) (by omega) (by omega) rfl rfl rfl
  rwa [hb] at this
end Mine
end

section
open PySem PySem.W PySem.Calls PyProof.Rows
set_option maxRecDepth 100000
set_option maxHeartbeats 2000000
namespace Mine
def XI (bs : List Bool) (W : Nat) : Int := (numsL (tx bs) (2 ^ W) 7).getD 7 0
def DI (bs : List Bool) : List Nat := digs 7 8 (XI bs 7).toNat
def mostC : List Nat := [1, 2, 4, 8, 15, 16, 7, 1]
def cntT (bs : List Bool) : Nat → Nat → Nat
  | _, 0 => 1
  | b, M + 1 => (match nx bs b false with | 0 => 0 | k + 1 => cntT bs (k + 1) M) + (match nx bs b true with | 0 => 0 | k + 1 => cntT bs (k + 1) M)
def wordsB : Nat → List (List Bool)
  | 0 => [[]]
  | n + 1 => (wordsB n).flatMap fun w => [w ++ [false], w ++ [true]]
theorem wordsB_front : ∀ n, wordsB (n + 1) = (wordsB n).map (false :: ·) ++ (wordsB n).map (true :: ·)
  | 0 => rfl
  | n + 1 => by
    have ih := wordsB_front n
    conv => lhs; rw [wordsB, ih]
    rw [List.flatMap_append, List.flatMap_map, List.flatMap_map]
    conv => rhs; rw [wordsB]
    rw [List.map_flatMap, List.map_flatMap]
    rfl
theorem cnt_eq (bs : List Bool) : ∀ (M b : Nat), ((wordsB M).filter (leftI bs b)).length = cntT bs b M
  | 0, b => rfl
  | M + 1, b => by
    rw [wordsB_front, List.filter_append, List.length_append, List.filter_map, List.filter_map, List.length_map, List.length_map, cntT]
    have half : ∀ c, ((wordsB M).filter (leftI bs b ∘ (c :: ·))).length = match nx bs b c with | 0 => 0 | k + 1 => cntT bs (k + 1) M := fun c => by
      cases h : nx bs b c with
      | zero =>
        have e : (leftI bs b ∘ (c :: ·)) = fun _ => false := by
          funext w
          show leftI bs b (c :: w) = false
          rw [leftI, h]
          rfl
        rw [e, List.filter_eq_nil_iff.mpr (by simp)]
        rfl
      | succ k =>
        have e : (leftI bs b ∘ (c :: ·)) = leftI bs (k + 1) := by
          funext w
          show leftI bs b (c :: w) = _
          rw [leftI, h]
          rfl
        rw [e]
        exact cnt_eq bs M (k + 1)
    rw [half false, half true]
def dbl (c : Bool) : List Bool → Bool
  | [] => false
  | x :: r => (match r with | [] => false | y :: _ => (x == c) && (y == c)) || dbl c r
theorem XI_numF {bs : List Bool} (W : Nat) (hb : bs.length = 7) : XI bs W = (numF (2 ^ W) bs 1 0 0 : Int) := by
  have h := nums_numF (2 ^ W) hb
  rw [Int.natCast_pow] at h
  exact h
theorem len_allB : ∀ {n : Nat} {l : List Bool}, l ∈ allB n → l.length = n
  | 0, l, h => by
    rw [allB, List.mem_singleton] at h
    rw [h]; rfl
  | n + 1, l, h => by
    rw [allB, List.mem_flatMap] at h
    obtain ⟨l', h', h2⟩ := h
    simp only [List.mem_cons, List.not_mem_nil, or_false] at h2
    have := len_allB h'
    rcases h2 with rfl | rfl <;> simp [this]
def numOk (W : Nat) (bs : List Bool) : Bool :=
  (digs W 8 (numF (2 ^ W) bs 1 0 0) == digs 7 8 (numF (2 ^ 7) bs 1 0 0)) && Nat.ble (2 ^ (7 * W)) (numF (2 ^ W) bs 1 0 0) && Nat.ble (numF (2 ^ W) bs 1 0 0 + 1) (2 ^ (8 * W))
def cntOk (bs : List Bool) : Bool := digs 7 8 (numF (2 ^ 7) bs 1 0 0) == (List.range 8).map (cntT bs 0)
def topOk (bs : List Bool) : Bool := (((List.range 8).map (cntT bs 0)).zip mostC).all (fun p => Nat.ble p.1 p.2) && ((((List.range 8).map (cntT bs 0)) == mostC) == (!dbl false bs && !dbl true bs))
theorem num7 : (allB 7).all (numOk 7) = true := by decide +kernel
theorem num8 : (allB 7).all (numOk 8) = true := by decide +kernel
theorem num9 : (allB 7).all (numOk 9) = true := by decide +kernel
theorem num10 : (allB 7).all (numOk 10) = true := by decide +kernel
theorem num11 : (allB 7).all (numOk 11) = true := by decide +kernel
theorem cnt7 : (allB 7).all cntOk = true := by decide +kernel
theorem top7 : (allB 7).all topOk = true := by decide +kernel
theorem DI_F {bs : List Bool} (hb : bs.length = 7) : DI bs = digs 7 8 (numF (2 ^ 7) bs 1 0 0) := by
  rw [DI, XI_numF 7 hb, Int.toNat_natCast]
theorem num_ok {W : Nat} {bs : List Bool} (h : (allB 7).all (numOk W) = true) (hm : bs ∈ allB 7) : digs W 8 (XI bs W).toNat = DI bs ∧ 2 ^ (7 * W) ≤ XI bs W ∧ XI bs W < 2 ^ (8 * W) := by
  have hb := len_allB hm
  have := List.all_eq_true.mp h bs hm
  rw [numOk, Bool.and_eq_true, Bool.and_eq_true, beq_iff_eq, Nat.ble_eq, Nat.ble_eq] at this
  obtain ⟨⟨h1, h2⟩, h3⟩ := this
  rw [DI_F hb, XI_numF W hb, Int.toNat_natCast]
  refine ⟨h1, ?_, ?_⟩
  · have := Int.ofNat_le.mpr h2
    rwa [Int.natCast_pow] at this
  · have := Int.ofNat_lt.mpr h3
    rwa [Int.natCast_pow] at this
theorem tab8 : ∀ bs ∈ allB 7, digs 8 8 (XI bs 8).toNat = DI bs ∧ 2 ^ (7 * 8) ≤ XI bs 8 ∧ XI bs 8 < 2 ^ (8 * 8) := fun _ => num_ok num8
theorem tab9 : ∀ bs ∈ allB 7, digs 9 8 (XI bs 9).toNat = DI bs ∧ 2 ^ (7 * 9) ≤ XI bs 9 ∧ XI bs 9 < 2 ^ (8 * 9) := fun _ => num_ok num9
theorem tab10 : ∀ bs ∈ allB 7, digs 10 8 (XI bs 10).toNat = DI bs ∧ 2 ^ (7 * 10) ≤ XI bs 10 ∧ XI bs 10 < 2 ^ (8 * 10) := fun _ => num_ok num10
theorem tab11 : ∀ bs ∈ allB 7, digs 11 8 (XI bs 11).toNat = DI bs ∧ 2 ^ (7 * 11) ≤ XI bs 11 ∧ XI bs 11 < 2 ^ (8 * 11) := fun _ => num_ok num11
theorem tab7 : ∀ bs ∈ allB 7, 2 ^ (7 * 7) ≤ XI bs 7 ∧ XI bs 7 < 2 ^ (8 * 7) ∧ DI bs = (List.range 8).map (cntT bs 0) := fun bs hm =>
  ⟨(num_ok num7 hm).2.1, (num_ok num7 hm).2.2, by rw [DI_F (len_allB hm)]; exact beq_iff_eq.mp (List.all_eq_true.mp cnt7 bs hm)⟩
theorem tabC : ∀ bs ∈ allB 7, (((List.range 8).map (cntT bs 0)).zip mostC).all (fun p => decide (p.1 ≤ p.2)) = true ∧ (((List.range 8).map (cntT bs 0)) == mostC) = (!dbl false bs && !dbl true bs) := fun bs hm => by
  have := List.all_eq_true.mp top7 bs hm
  rw [topOk, Bool.and_eq_true] at this
  refine ⟨?_, beq_iff_eq.mp this.2⟩
  have e : (fun p : Nat × Nat => Nat.ble p.1 p.2) = fun p => decide (p.1 ≤ p.2) := by
    funext p
    rw [Bool.eq_iff_iff, Nat.ble_eq, decide_eq_true_eq]
  rw [← e]
  exact this.1
theorem tabM : ∀ W ∈ [7, 8, 9, 10, 11], (List.range 8).map (fun m => ((digs W (m + 1) ((2 ^ W + 1) ^ m)).take (8 - m)).sum) = mostC := by decide +kernel
end Mine
end

section
open PySem PySem.W PySem.Calls PyProof.Rows
set_option maxRecDepth 100000
set_option maxHeartbeats 2000000
namespace Mine
section
variable {prog : Program} {w : World} {A : Around} {E : Value → Shared → Prop} {R : Result → Shared → Prop} {s : Shared} {env : Env}
abbrev two (elt t1 i1 t2 i2 : Expr) (scope : Scope) (pos : Pos) : Expr := .ListComp elt [⟨t1, i1, [], 0⟩, ⟨t2, i2, [], 0⟩] scope pos
theorem turn_two0 (elt t1 i1 t2 i2 : Expr) (scope : Scope) (pos : Pos) (it acc : Value) (env : Env) :
    compTurn (two elt t1 i1 t2 i2 scope pos) 0 it acc env = (do
      standAt i1.pos
      match ← pyNext it with
      | none => pure (.done .next)
      | some v =>
        letOwnedTupleGo t1 it v
        assign t1 env v
        let mut ok := true
        for c in ([] : List Expr) do
          if ok then ok ← isTrue c env (eval c env)
        if ok then
          let x ← eval i2 env
          standAt i2.pos
          let x ← foldedSetIterable i2 env x
          let _ ← runOwn (.compStart (two elt t1 i1 t2 i2 scope pos) 1 (← holding [x] (pyIter x)) acc env) env
        again (.compLoop (two elt t1 i1 t2 i2 scope pos) 0 it acc env)) := by rfl
theorem turn_two1 (elt t1 i1 t2 i2 : Expr) (scope : Scope) (pos : Pos) (it acc : Value) (env : Env) :
    compTurn (two elt t1 i1 t2 i2 scope pos) 1 it acc env = (do
      standAt i2.pos
      match ← pyNext it with
      | none => pure (.done .next)
      | some v =>
        letOwnedTupleGo t2 it v
        assign t2 env v
        let mut ok := true
        for c in ([] : List Expr) do
          if ok then ok ← isTrue c env (eval c env)
        if ok then
          (do let _ ← call (.builtin "list.append") [acc, ← eval elt env])
        again (.compLoop (two elt t1 i1 t2 i2 scope pos) 1 it acc env)) := by rfl

/-- the inner clause -/
theorem loop_two1 {elt t1 i1 t2 i2 : Expr} {scope : Scope} {pos : Pos} {it acc : Value} {env : Env} (I : Nat → Shared → Prop)
    (turn : ∀ n s, I n s → wpAny (model prog w) A (pyNext it) (fun r s₁ => match r with
      | none => R (.ok .next) s₁
      | some v => wpAny (model prog w) A (assign t2 env v) (fun _ s₂ => wpAny (model prog w) A (eval elt env) (fun x s₄ =>
              wpAny (model prog w) A (call (.builtin "list.append") [acc, x]) (fun _ s₅ => ∃ m, m < n ∧ I m s₅) (notedBy (model prog w) A env fun e s' => R (.error e) s') s₄) (notedBy (model prog w) A env fun e s' => R (.error e) s') s₂)
          (notedBy (model prog w) A env fun e s' => R (.error e) s') s₁) (notedBy (model prog w) A env fun e s' => R (.error e) s') s)
    (n : Nat) (h : I n s) (ht : ∀ v, letOwnedTupleGo t2 it v = pure ()) :
    codeAny (model prog w) A (.compLoop (two elt t1 i1 t2 i2 scope pos) 1 it acc env) R s := by
  refine codeAny_loop rfl I (fun n s hI => ?_) n h
  show wpAny _ A ((compTurn (two elt t1 i1 t2 i2 scope pos) 1 it acc env).onRaise (fun x => do noteFrame x env; theTreesLotGoes x)) _ _ s
  refine wpAny_noted ?_
  rw [turn_two1]
  refine wpAny_bind (wpAny_standAt (wpAny_bind (wpAny_mono (turn n s hI) (fun r s₁ h₁ => ?_) fun _ _ h' => h')))
  cases r with
  | none => exact wpAny_pure h₁
  | some v =>
    refine wpAny_bind (wpAny_of_eq (ht v) ?_)
    refine wpAny_bind (wpAny_mono h₁ (fun _ s₂ h₂ => ?_) fun _ _ h' => h')
    simp only [List.forIn_nil]
    refine wpAny_bind (wpAny_pure ?_)
    exact wpAny_bind (wpAny_bind (wpAny_mono h₂ (fun x s₄ h₄ => wpAny_bind (wpAny_mono h₄ (fun _ s₅ h₅ => wpAny_pure (wpAny_pure ⟨rfl, h₅⟩)) fun _ _ h' => h')) fun _ _ h' => h'))

theorem start_two1 {elt t1 i1 t2 i2 : Expr} {scope : Scope} {pos : Pos} {it acc : Value}
    (h0 : codeAny (model prog w) A (.compLoop (two elt t1 i1 t2 i2 scope pos) 1 it acc env) R s)
    (h : wpAny (model prog w) A (pyIter it) (fun it' s' => codeAny (model prog w) A (.compLoop (two elt t1 i1 t2 i2 scope pos) 1 it' acc env) R s') (notedBy (model prog w) A env fun x s' => R (.error x) s') s) :
    codeAny (model prog w) A (.compStart (two elt t1 i1 t2 i2 scope pos) 1 it acc env) R s := by
  refine codeAny_of_tree ?_
  show wpAny _ _ ((compStart (two elt t1 i1 t2 i2 scope pos) 1 it acc env).onRaise (fun x => do noteFrame x env; standAt theWindowsPlace)) _ _ s
  refine wpAny_notedAt ?_
  unfold compStart
  show wpAny _ _ (ask >>= _) _ _ s
  refine wpAny_bind (wpAny_askSetting (wpAny_ite ?_))
  split
  · exact wpAny_pure (And.intro rfl h0)
  · refine wpAny_bind (wpAny_rule ?_)
    show wpAny _ _ (standAt i2.pos >>= _) _ _ s
    exact wpAny_bind (wpAny_standAt (wpAny_bind (wpAny_mono h (fun it' s' h' => wpAny_pure (And.intro rfl h')) fun _ _ x => x)))

/-- the outer clause -/
theorem loop_two0 {elt t1 i1 t2 i2 : Expr} {scope : Scope} {pos : Pos} {it acc : Value} {env : Env} (I : Nat → Shared → Prop)
    (turn : ∀ n s, I n s → wpAny (model prog w) A (pyNext it) (fun r s₁ => match r with
      | none => R (.ok .next) s₁
      | some v => wpAny (model prog w) A (assign t1 env v) (fun _ s₂ => wpAny (model prog w) A (eval i2 env) (fun x s₃ => wpAny (model prog w) A (pyIter x) (fun it2 s₄ =>
              codeAny (model prog w) (A.mark none) (.compStart (two elt t1 i1 t2 i2 scope pos) 1 it2 acc env) (fun r s₅ => match r with | .ok _ => ∃ m, m < n ∧ I m s₅ | .error e => cameBackBy (model prog w) A env (notedBy (model prog w) A env fun e s' => R (.error e) s') e s₅) s₄)
            (notedBy (model prog w) A env fun e s' => R (.error e) s') s₃) (notedBy (model prog w) A env fun e s' => R (.error e) s') s₂)
          (notedBy (model prog w) A env fun e s' => R (.error e) s') s₁) (notedBy (model prog w) A env fun e s' => R (.error e) s') s)
    (n : Nat) (h : I n s) (ht : ∀ v, letOwnedTupleGo t1 it v = pure ()) (hs : ∀ x, foldedSetIterable i2 env x = pure x) :
    codeAny (model prog w) A (.compLoop (two elt t1 i1 t2 i2 scope pos) 0 it acc env) R s := by
  refine codeAny_loop rfl I (fun n s hI => ?_) n h
  show wpAny _ A ((compTurn (two elt t1 i1 t2 i2 scope pos) 0 it acc env).onRaise (fun x => do noteFrame x env; theTreesLotGoes x)) _ _ s
  refine wpAny_noted ?_
  rw [turn_two0]
  refine wpAny_bind (wpAny_standAt (wpAny_bind (wpAny_mono (turn n s hI) (fun r s₁ h₁ => ?_) fun _ _ h' => h')))
  cases r with
  | none => exact wpAny_pure h₁
  | some v =>
    refine wpAny_bind (wpAny_of_eq (ht v) ?_)
    refine wpAny_bind (wpAny_mono h₁ (fun _ s₂ h₂ => ?_) fun _ _ h' => h')
    simp only [List.forIn_nil]
    refine wpAny_bind (wpAny_pure ?_)
    refine wpAny_bind (wpAny_mono h₂ (fun x s₃ h₃ => ?_) fun _ _ h' => h')
    refine wpAny_bind (wpAny_standAt (wpAny_bind (wpAny_of_eq (hs x) (wpAny_bind (wpAny_holding (wpAny_mono h₃ (fun it2 s₄ h₄ => ?_) fun _ _ h' => h'))))))
    refine wpAny_bind (wpAny_mono (wpAny_runOwn (Q := fun _ s₅ => ∃ m, m < n ∧ I m s₅) (codeAny_mono h₄ fun r s₅ hr => ?_)) (fun _ s₅ h₅ => wpAny_pure ⟨rfl, h₅⟩) fun _ _ h' => h')
    cases r with
    | ok f => exact hr
    | error e => exact hr
end
end Mine
end

section
open PySem PySem.W PySem.Calls PyProof.Rows
set_option maxRecDepth 100000
set_option maxHeartbeats 2000000
namespace Mine
theorem news_none {g h h' : Heap} {L c : Addr} {m : PySem.Str → Option Value} {o : Obj} {nw : List (Addr × Obj)} (F : Fr g L h m) (N : News g L h nw) (hk : ∀ b o, h.get? b = some o → h'.get? b = some o) (hc : h.get? c = none) (e : h'.get? c = some o) : News g L h' ((c, o) :: nw) := fun p hp => by
  rcases List.mem_cons.mp hp with rfl | hp
  · refine ⟨e, fun q => ?_, ?_⟩
    · obtain ⟨oL, _, _, hL, _⟩ := F.ns
      have q' : c = L := q
      rw [q', hL] at hc; cases hc
    · cases q : g.get? c with
      | none => rfl
      | some o => have q' : g.get? c = some o := q; have := F.keep _ _ q'; rw [hc] at this; cases this
  · exact ⟨hk _ _ (N p hp).1, (N p hp).2⟩
theorem news_noneL {g h h' : Heap} {L c : Addr} {m m' : PySem.Str → Option Value} {o : Obj} {nw : List (Addr × Obj)} (F : Fr g L h m) (N : News g L h nw) (hn : h'.Ns L m') (hk : ∀ b o, b ≠ L → h.get? b = some o → h'.get? b = some o) (hc : h.get? c = none) (e : h'.get? c = some o) : Fr g L h' m' ∧ News g L h' ((c, o) :: nw) := by
  have hL : ∀ b o, g.get? b = some o → b ≠ L := fun b o q => Nat.ne_of_lt (Nat.lt_of_lt_of_le (Heap.lt_size q) F.above)
  refine ⟨⟨hn, fun b o q => hk b o (hL b o q) (F.keep b o q), F.above⟩, fun p hp => ?_⟩
  rcases List.mem_cons.mp hp with rfl | hp
  · refine ⟨e, fun q => ?_, ?_⟩
    · obtain ⟨oL, _, _, hL', _⟩ := F.ns
      have q' : c = L := q
      rw [q', hL'] at hc; cases hc
    · cases q : g.get? c with
      | none => rfl
      | some o => have q' : g.get? c = some o := q; have := F.keep _ _ q'; rw [hc] at this; cases this
  · exact ⟨hk _ _ (N p hp).2.1 (N p hp).1, (N p hp).2⟩
theorem list_of_at {vs ws : List Value} (h1 : vs.length = ws.length) (h2 : ∀ (j : Nat) v, vs[j]? = some v → ws.toArray[j]? = some v) : vs = ws := by
  apply List.ext_getElem h1
  intro j a b
  have := h2 j _ (List.getElem?_eq_getElem a)
  simpa [List.getElem?_eq_getElem b] using this.symm
section
variable {prog : Program} {w : World} {A : Around} {E : Value → Shared → Prop} {s : Shared} {env : Env}
def TestsOk (prog : Program) (w : World) (A : Around) (env : Env) (ifs : List Expr) (P : Bool → Prop) (s₃ : Shared) : Prop :=
  ∀ E', wpAny (model prog w) A (forIn ifs true fun c r => if r = true then do let ok ← isTrue c env (eval c env); pure (ForInStep.yield ok) else pure (ForInStep.yield r)) (fun ok s₄ => P ok ∧ Keeps s₃ s₄) E' s₃
def EltOk (prog : Program) (w : World) (A : Around) (env : Env) (elt : Expr) (P : Value → Prop) (s₃ : Shared) : Prop :=
  ∀ E', wpAny (model prog w) A (eval elt env) (fun y s₄ => P y ∧ Keeps s₃ s₄) E' s₃
theorem Keeps.refl (s : Shared) : Keeps s s := ⟨_, _, rfl, fun _ _ e => e⟩

/-- the source of a comprehension: a list -/
theorem overList {elt : Expr} {x : PySem.Str} {ifs : List Expr} {scope : Scope} {cl : List (PySem.Str × Addr)} {Q : Value → Shared → Prop} {p : Value → Bool} {F : Value → Value → Prop} {ax : Addr} {ws : List Value}
    (hh : A.handled = none) (hl : s.heap.IsList ax ws.toArray) (hsz : ws.length ≤ sizeLine)
    (tests : ∀ C v s₃ m₃, @LE.le Nat _ s.heap.objs.size C → v ∈ ws → s₃.heap.Ns C m₃ → m₃ x = some v → (∀ b o, s.heap.get? b = some o → s₃.heap.get? b = some o) → TestsOk prog w A (compEnvC scope cl C env) ifs (fun ok => ok = p v) s₃)
    (elts : ∀ C v s₃ m₃, @LE.le Nat _ s.heap.objs.size C → v ∈ ws → p v = true → s₃.heap.Ns C m₃ → m₃ x = some v → (∀ b o, s.heap.get? b = some o → s₃.heap.get? b = some o) → EltOk prog w A (compEnvC scope cl C env) elt (F v) s₃)
    (done : ∀ D h' tk ys, s.heap.get? D = none → h'.PlainList D ys → Paired F (ws.filter p) ys.toList → (∀ b o, s.heap.get? b = some o → h'.get? b = some o) → Q (.ref D) { s with heap := h', toks := tk }) :
    wpAny (model prog w) A (pyIter (.ref ax)) (fun it s₂ => ∃ I fp wr n P St, it = .ref I ∧ Walks prog w A I fp wr n P St ∧ n ≤ sizeLine ∧ St 0 s₂.heap ∧ (∀ b ∈ fp, b < s₂.heap.objs.size) ∧
      QuietOnC prog w A env scope cl x ifs elt wr P p F s₂ ∧
      (∀ D h' tk ys (vs : List Value), s₂.heap.get? D = none → h'.IsList D ys → h'.PlainList D ys → vs.length = n → (∀ j v, vs[j]? = some v → P j v) → Paired F (vs.filter p) ys.toList →
        (∀ b o, b ∉ wr → s₂.heap.get? b = some o → h'.get? b = some o) → Q (.ref D) { s₂ with heap := h', toks := tk })) E s := by
  obtain ⟨ol, hol, _⟩ := id hl
  have hlt : @LT.lt Nat _ ax s.heap.objs.size := Heap.lt_size hol
  have hne : ax ≠ s.heap.objs.size := Nat.ne_of_lt hlt
  refine wpAny_pyIter_list hl ?_
  have up : ∀ b o, s.heap.get? b = some o → b ∉ [s.heap.objs.size] ∧ (s.heap.push { cls := .type "list_iterator", data := .fields #[.ref ax, .int 0 0] }).get? b = some o := fun b o e =>
    ⟨fun hm => by rw [List.mem_singleton.mp hm] at e; exact Nat.lt_irrefl _ (Heap.lt_size e), Heap.get?_push_of_some _ e⟩
  have hz : (s.heap.push { cls := .type "list_iterator", data := .fields #[.ref ax, .int 0 0] }).objs.size = s.heap.objs.size + 1 := Heap.size_push ..
  have vm : ∀ (i : Nat) v, ws.toArray[i]? = some v → v ∈ ws := fun i v e => List.mem_of_getElem? (i := i) (by rw [List.getElem?_toArray] at e; exact e)
  have zle : @LE.le Nat _ s.heap.objs.size (s.heap.push { cls := .type "list_iterator", data := .fields #[.ref ax, .int 0 0] }).objs.size := by rw [hz]; exact Nat.le_succ _
  refine ⟨s.heap.objs.size, _, _, _, _, _, rfl, Walks.list hh s.heap.objs.size ax hne ws.toArray, by simpa using hsz, ⟨⟨_, Heap.get?_push_size _ rfl, rfl, rfl⟩, hl.at fun o e => Heap.get?_push_of_some _ e⟩, ?_, ⟨?_, ?_⟩, ?_⟩
  · intro b hb
    have hb' : b = s.heap.objs.size ∨ b = ax := by simpa using hb
    show @LT.lt Nat _ b _
    rw [hz]
    rcases hb' with rfl | rfl
    · exact Nat.lt_succ_self _
    · exact Nat.lt_succ_of_lt hlt
  · intro C i v s₃ m₃ E' hC hP hn hm hk _
    exact tests C v s₃ m₃ (Nat.le_trans zle hC) (vm i v hP) hn hm (fun b o e => hk b o (up b o e).1 (up b o e).2) E'
  · intro C i v s₃ m₃ E' hC hP hp hn hm hk _
    exact elts C v s₃ m₃ (Nat.le_trans zle hC) (vm i v hP) hp hn hm (fun b o e => hk b o (up b o e).1 (up b o e).2) E'
  · intro D h' tk ys vs hD _ hpl hlen hP hF hk
    have e : vs = ws := list_of_at (by simpa using hlen) hP
    subst e
    refine done D h' tk ys ?_ hpl hF fun b o e => hk b o (up b o e).1 (up b o e).2
    cases q : s.heap.get? D with
    | none => rfl
    | some o => have := (up D o q).2; dsimp only at hD; rw [hD] at this; cases this

/-- the same where the comprehension is bound to a name -/
theorem overListA {elt : Expr} {x y : PySem.Str} {ifs : List Expr} {scope : Scope} {cl : List (PySem.Str × Addr)} {Q : Flow → Shared → Prop} {p : Value → Bool} {F : Value → Value → Prop} {ax : Addr} {ws : List Value} {m : PySem.Str → Option Value}
    (hh : A.handled = none) (hl : s.heap.IsList ax ws.toArray) (hsz : ws.length ≤ sizeLine) (hns : s.heap.Ns env.locals m)
    (tests : ∀ C v s₃ m₃, @LE.le Nat _ s.heap.objs.size C → v ∈ ws → s₃.heap.Ns C m₃ → m₃ x = some v → (∀ b o, s.heap.get? b = some o → s₃.heap.get? b = some o) → TestsOk prog w A (compEnvC scope cl C env) ifs (fun ok => ok = p v) s₃)
    (elts : ∀ C v s₃ m₃, @LE.le Nat _ s.heap.objs.size C → v ∈ ws → p v = true → s₃.heap.Ns C m₃ → m₃ x = some v → (∀ b o, s.heap.get? b = some o → s₃.heap.get? b = some o) → EltOk prog w A (compEnvC scope cl C env) elt (F v) s₃)
    (done : ∀ D h' tk ys, s.heap.get? D = none → h'.PlainList D ys → Paired F (ws.filter p) ys.toList → h'.Ns env.locals (fun z => if z = y then some (.ref D) else m z) → (∀ b o, b ≠ env.locals → s.heap.get? b = some o → h'.get? b = some o) → Q .next { s with heap := h', toks := tk }) :
    wpAny (model prog w) A (pyIter (.ref ax)) (fun it s₂ => ∃ I fp wr n P St m, it = .ref I ∧ Walks prog w A I fp wr n P St ∧ n ≤ sizeLine ∧ St 0 s₂.heap ∧ (∀ b ∈ fp, b < s₂.heap.objs.size) ∧
      env.locals ∉ wr ∧ s₂.heap.Ns env.locals m ∧ QuietOnC prog w A env scope cl x ifs elt wr P p F s₂ ∧
      (∀ D h' tk ys (vs : List Value), s₂.heap.get? D = none → h'.IsList D ys → h'.PlainList D ys → vs.length = n → (∀ j v, vs[j]? = some v → P j v) → Paired F (vs.filter p) ys.toList →
        h'.Ns env.locals (fun z => if z = y then some (.ref D) else m z) → (∀ b o, b ≠ env.locals → b ∉ wr → s₂.heap.get? b = some o → h'.get? b = some o) → Q .next { s₂ with heap := h', toks := tk })) E s := by
  obtain ⟨ol, hol, _⟩ := id hl
  have hlt : @LT.lt Nat _ ax s.heap.objs.size := Heap.lt_size hol
  have hne : ax ≠ s.heap.objs.size := Nat.ne_of_lt hlt
  refine wpAny_pyIter_list hl ?_
  have up : ∀ b o, s.heap.get? b = some o → b ∉ [s.heap.objs.size] ∧ (s.heap.push { cls := .type "list_iterator", data := .fields #[.ref ax, .int 0 0] }).get? b = some o := fun b o e =>
    ⟨fun hm => by rw [List.mem_singleton.mp hm] at e; exact Nat.lt_irrefl _ (Heap.lt_size e), Heap.get?_push_of_some _ e⟩
  have hz : (s.heap.push { cls := .type "list_iterator", data := .fields #[.ref ax, .int 0 0] }).objs.size = s.heap.objs.size + 1 := Heap.size_push ..
  have vm : ∀ (i : Nat) v, ws.toArray[i]? = some v → v ∈ ws := fun i v e => List.mem_of_getElem? (i := i) (by rw [List.getElem?_toArray] at e; exact e)
  have zle : @LE.le Nat _ s.heap.objs.size (s.heap.push { cls := .type "list_iterator", data := .fields #[.ref ax, .int 0 0] }).objs.size := by rw [hz]; exact Nat.le_succ _
  refine ⟨s.heap.objs.size, _, _, _, _, _, m, rfl, Walks.list hh s.heap.objs.size ax hne ws.toArray, by simpa using hsz, ⟨⟨_, Heap.get?_push_size _ rfl, rfl, rfl⟩, hl.at fun o e => Heap.get?_push_of_some _ e⟩, ?_, ?_, hns.at' fun o e => (up _ o e).2, ⟨?_, ?_⟩, ?_⟩
  · intro b hb
    have hb' : b = s.heap.objs.size ∨ b = ax := by simpa using hb
    show @LT.lt Nat _ b _
    rw [hz]
    rcases hb' with rfl | rfl
    · exact Nat.lt_succ_self _
    · exact Nat.lt_succ_of_lt hlt
  · obtain ⟨oL, _, _, hL, _⟩ := hns
    exact (up _ _ hL).1
  · intro C i v s₃ m₃ E' hC hP hn hm hk _
    exact tests C v s₃ m₃ (Nat.le_trans zle hC) (vm i v hP) hn hm (fun b o e => hk b o (up b o e).1 (up b o e).2) E'
  · intro C i v s₃ m₃ E' hC hP hp hn hm hk _
    exact elts C v s₃ m₃ (Nat.le_trans zle hC) (vm i v hP) hp hn hm (fun b o e => hk b o (up b o e).1 (up b o e).2) E'
  · intro D h' tk ys vs hD _ hpl hlen hP hF hn hk
    have e : vs = ws := list_of_at (by simpa using hlen) hP
    subst e
    refine done D h' tk ys ?_ hpl hF hn fun b o hb e => hk b o hb (up b o e).1 (up b o e).2
    cases q : s.heap.get? D with
    | none => rfl
    | some o => have := (up D o q).2; dsimp only at hD; rw [hD] at this; cases this

/-- the source: the signs of a text of the letters a and b -/
theorem overTx {elt : Expr} {x : PySem.Str} {scope : Scope} {cl : List (PySem.Str × Addr)} {Q : Value → Shared → Prop} {F : Value → Value → Prop} {wd : List Bool} {tt : Tok}
    (hh : A.handled = none) (hsz : wd.length ≤ sizeLine)
    (elts : ∀ C c u s₃ m₃, @LE.le Nat _ s.heap.objs.size C → s₃.heap.Ns C m₃ → m₃ x = some (.str (letter c) u) → (∀ b o, s.heap.get? b = some o → s₃.heap.get? b = some o) → EltOk prog w A (compEnvC scope cl C env) elt (F (.str (letter c) u)) s₃)
    (done : ∀ D h' tk ys vs, s.heap.get? D = none → h'.PlainList D ys → vs.length = wd.length → (∀ (j : Nat) v, vs[j]? = some v → ∃ c u, wd[j]? = some c ∧ v = .str (letter c) u) → Paired F vs ys.toList → (∀ b o, s.heap.get? b = some o → h'.get? b = some o) → Q (.ref D) { s with heap := h', toks := tk }) :
    wpAny (model prog w) A (pyIter (.str (tx wd) tt)) (fun it s₂ => ∃ I fp wr n P St, it = .ref I ∧ Walks prog w A I fp wr n P St ∧ n ≤ sizeLine ∧ St 0 s₂.heap ∧ (∀ b ∈ fp, b < s₂.heap.objs.size) ∧
      QuietOnC prog w A env scope cl x [] elt wr P (fun _ => true) F s₂ ∧
      (∀ D h' tk ys (vs : List Value), s₂.heap.get? D = none → h'.IsList D ys → h'.PlainList D ys → vs.length = n → (∀ j v, vs[j]? = some v → P j v) → Paired F (vs.filter fun _ => true) ys.toList →
        (∀ b o, b ∉ wr → s₂.heap.get? b = some o → h'.get? b = some o) → Q (.ref D) { s₂ with heap := h', toks := tk })) E s := by
  have cls : (tx wd).cps.size = wd.length := by simp [tx]
  have at_ : ∀ (i n : Nat), (tx wd).cps[i]? = some n → ∃ c, wd[i]? = some c ∧ n = code c := fun i n e => by
    have e' : (wd.map code)[i]? = some n := by simpa [tx] using e
    rw [List.getElem?_map] at e'
    cases h : wd[i]? with
    | none => rw [h] at e'; cases e'
    | some c => rw [h] at e'; exact ⟨c, rfl, (Option.some.inj e').symm⟩
  refine wpAny_pyIter_str fun oI St hW hst => ?_
  have W := hW A hh
  have up : ∀ b o, s.heap.get? b = some o → b ∉ [s.heap.objs.size] ∧ (s.heap.push oI).get? b = some o := fun b o e =>
    ⟨fun hm => by rw [List.mem_singleton.mp hm] at e; exact Nat.lt_irrefl _ (Heap.lt_size e), Heap.get?_push_of_some _ e⟩
  have hz : (s.heap.push oI).objs.size = s.heap.objs.size + 1 := Heap.size_push ..
  have zle : @LE.le Nat _ s.heap.objs.size (s.heap.push oI).objs.size := by rw [hz]; exact Nat.le_succ _
  refine ⟨s.heap.objs.size, _, _, _, _, St, rfl, W, by rw [cls]; exact hsz, hst, ?_, ⟨?_, ?_⟩, ?_⟩
  · intro b hb
    have hb' : b = s.heap.objs.size := by simpa using hb
    show @LT.lt Nat _ b _
    rw [hz, hb']
    exact Nat.lt_succ_self _
  · intro C i v s₃ m₃ E' hC hP hn hm hk _
    exact wpAny_tests_nil ⟨rfl, Keeps.refl _⟩
  · rintro C i v s₃ m₃ E' hC ⟨n, u, hn', rfl⟩ hp hn hm hk _
    obtain ⟨c, _, rfl⟩ := at_ i n hn'
    exact elts C c u s₃ m₃ (Nat.le_trans zle hC) hn hm (fun b o e => hk b o (up b o e).1 (up b o e).2) E'
  · intro D h' tk ys vs hD _ hpl hlen hP hF hk
    rw [List.filter_eq_self.mpr fun _ _ => rfl] at hF
    refine done D h' tk ys vs ?_ hpl (by rw [hlen, cls]) (fun j v e => ?_) hF fun b o e => hk b o (up b o e).1 (up b o e).2
    · cases q : s.heap.get? D with
      | none => rfl
      | some o => have := (up D o q).2; dsimp only at hD; rw [hD] at this; cases this
    · obtain ⟨n, u, hn', rfl⟩ := hP j v e
      obtain ⟨c, h1, rfl⟩ := at_ j n hn'
      exact ⟨c, u, h1, rfl⟩
end
end Mine
end

section
open PySem PySem.W PySem.Calls PyProof.Rows
set_option maxRecDepth 100000
set_option maxHeartbeats 2000000
namespace Mine
section
variable {prog : Program} {w : World} {A : Around} {E : Value → Shared → Prop} {s : Shared} {env : Env}
theorem listC {elt iter : Expr} {x : PySem.Str} {px : Pos} {ifs : List Expr} {scope : Scope} {cl : List (PySem.Str × Addr)} {pos : Pos} {Q : Value → Shared → Prop} (p : Value → Bool) (F : Value → Value → Prop)
    (hh : A.handled = none) (hclos : closureFor scope env = pure cl) (hcell : ∀ y ∈ scope.names, y.2 ≠ .cell) (hkind : scope.kind = .function)
    (hnames : ∀ y ∈ scope.names, y.2 = .local → scope.names.lookup y.1 = some .local) (hx : scope.names.lookup x = some .local)
    (h : wpAny (model prog w) A (eval iter env) (fun xv s₁ => ∃ (ax : Addr) (ws : List Value), xv = .ref ax ∧ s₁.heap.IsList ax ws.toArray ∧ ws.length ≤ sizeLine ∧
      (∀ C v s₃ m₃, @LE.le Nat _ s₁.heap.objs.size C → v ∈ ws → s₃.heap.Ns C m₃ → m₃ x = some v → (∀ b o, s₁.heap.get? b = some o → s₃.heap.get? b = some o) → TestsOk prog w A (compEnvC scope cl C env) ifs (fun ok => ok = p v) s₃) ∧
      (∀ C v s₃ m₃, @LE.le Nat _ s₁.heap.objs.size C → v ∈ ws → p v = true → s₃.heap.Ns C m₃ → m₃ x = some v → (∀ b o, s₁.heap.get? b = some o → s₃.heap.get? b = some o) → EltOk prog w A (compEnvC scope cl C env) elt (F v) s₃) ∧
      (∀ D h' tk ys, s₁.heap.get? D = none → h'.PlainList D ys → Paired F (ws.filter p) ys.toList → (∀ b o, s₁.heap.get? b = some o → h'.get? b = some o) → Q (.ref D) { s₁ with heap := h', toks := tk })) E s)
    (hs : ∀ x, foldedSetIterable iter env x = pure x := by intro _; rfl) :
    wpAny (model prog w) A (eval (.ListComp elt [⟨.Name x px, iter, ifs, 0⟩] scope pos) env) Q E s := by
  refine wpAny_ListComp_free p F hclos hcell hkind hnames hx (wpAny_mono h (fun xv s₁ h₁ => ?_) fun _ _ e => e) hs
  obtain ⟨ax, ws, rfl, hl, hsz, ht, he, hd⟩ := h₁
  exact overList hh hl hsz ht he hd

theorem listCA {elt iter : Expr} {x y : PySem.Str} {px py : Pos} {ifs : List Expr} {scope : Scope} {cl : List (PySem.Str × Addr)} {pos spos : Pos} {Q : Flow → Shared → Prop} (p : Value → Bool) (F : Value → Value → Prop)
    (hh : A.handled = none) (hsw : swapsWith (.ListComp elt [⟨.Name x px, iter, ifs, 0⟩] scope pos) (some (.Name y py)) spos.line env = pure true) (hclos : closureFor scope env = pure cl) (hcell : ∀ y ∈ scope.names, y.2 ≠ .cell) (hkind : scope.kind = .function)
    (hnames : ∀ y ∈ scope.names, y.2 = .local → scope.names.lookup y.1 = some .local) (hx : scope.names.lookup x = some .local) (hy : env.kindOf y = some .local) (hp : (env.scope.kind == .class || (env.scope.kind == .module && env.locals != env.globals)) = false)
    (h : wpAny (model prog w) A (eval iter env) (fun xv s₁ => ∃ (ax : Addr) (ws : List Value) (m : PySem.Str → Option Value), xv = .ref ax ∧ s₁.heap.IsList ax ws.toArray ∧ ws.length ≤ sizeLine ∧ s₁.heap.Ns env.locals m ∧
      (∀ C v s₃ m₃, @LE.le Nat _ s₁.heap.objs.size C → v ∈ ws → s₃.heap.Ns C m₃ → m₃ x = some v → (∀ b o, s₁.heap.get? b = some o → s₃.heap.get? b = some o) → TestsOk prog w A (compEnvC scope cl C env) ifs (fun ok => ok = p v) s₃) ∧
      (∀ C v s₃ m₃, @LE.le Nat _ s₁.heap.objs.size C → v ∈ ws → p v = true → s₃.heap.Ns C m₃ → m₃ x = some v → (∀ b o, s₁.heap.get? b = some o → s₃.heap.get? b = some o) → EltOk prog w A (compEnvC scope cl C env) elt (F v) s₃) ∧
      (∀ D h' tk ys, s₁.heap.get? D = none → h'.PlainList D ys → Paired F (ws.filter p) ys.toList → h'.Ns env.locals (fun z => if z = y then some (.ref D) else m z) → (∀ b o, b ≠ env.locals → s₁.heap.get? b = some o → h'.get? b = some o) → Q .next { s₁ with heap := h', toks := tk })) E s)
    (hs : ∀ x, foldedSetIterable iter env x = pure x := by intro _; rfl) :
    wpAny (model prog w) A (exec (.Assign [.Name y py] (.ListComp elt [⟨.Name x px, iter, ifs, 0⟩] scope pos) spos) env) Q E s := by
  refine wpAny_Assign_ListComp_free p F hsw hclos hcell hkind hnames hx hy hp (wpAny_mono h (fun xv s₁ h₁ => ?_) fun _ _ e => e) hs
  obtain ⟨ax, ws, m, rfl, hl, hsz, hns, ht, he, hd⟩ := h₁
  exact overListA hh hl hsz hns ht he hd

theorem txC {elt iter : Expr} {x : PySem.Str} {px : Pos} {scope : Scope} {cl : List (PySem.Str × Addr)} {pos : Pos} {Q : Value → Shared → Prop} (F : Value → Value → Prop)
    (hh : A.handled = none) (hclos : closureFor scope env = pure cl) (hcell : ∀ y ∈ scope.names, y.2 ≠ .cell) (hkind : scope.kind = .function)
    (hnames : ∀ y ∈ scope.names, y.2 = .local → scope.names.lookup y.1 = some .local) (hx : scope.names.lookup x = some .local)
    (h : wpAny (model prog w) A (eval iter env) (fun xv s₁ => ∃ (wd : List Bool) (tt : Tok), xv = .str (tx wd) tt ∧ wd.length ≤ sizeLine ∧
      (∀ C c u s₃ m₃, @LE.le Nat _ s₁.heap.objs.size C → s₃.heap.Ns C m₃ → m₃ x = some (.str (letter c) u) → (∀ b o, s₁.heap.get? b = some o → s₃.heap.get? b = some o) → EltOk prog w A (compEnvC scope cl C env) elt (F (.str (letter c) u)) s₃) ∧
      (∀ D h' tk ys vs, s₁.heap.get? D = none → h'.PlainList D ys → vs.length = wd.length → (∀ (j : Nat) v, vs[j]? = some v → ∃ c u, wd[j]? = some c ∧ v = .str (letter c) u) → Paired F vs ys.toList → (∀ b o, s₁.heap.get? b = some o → h'.get? b = some o) → Q (.ref D) { s₁ with heap := h', toks := tk })) E s)
    (hs : ∀ x, foldedSetIterable iter env x = pure x := by intro _; rfl) :
    wpAny (model prog w) A (eval (.ListComp elt [⟨.Name x px, iter, [], 0⟩] scope pos) env) Q E s := by
  refine wpAny_ListComp_free (fun _ => true) F hclos hcell hkind hnames hx (wpAny_mono h (fun xv s₁ h₁ => ?_) fun _ _ e => e) hs
  obtain ⟨wd, tt, rfl, hsz, he, hd⟩ := h₁
  exact overTx hh hsz he hd
end
end Mine
end

section
open PySem PySem.W PySem.Calls PyProof.Rows PyProof.V PySem.Spec
set_option maxRecDepth 100000
set_option maxHeartbeats 2000000
namespace Mine
inductive TwoAre (F : Value → Bool → Value → Prop) : List Value → List Value → Prop
  | nil : TwoAre F [] []
  | snoc {vs ys v a b} : TwoAre F vs ys → F v false a → F v true b → TwoAre F (vs ++ [v]) (ys ++ [a, b])
theorem TwoAre.len {F : Value → Bool → Value → Prop} : ∀ {vs ys}, TwoAre F vs ys → ys.length = 2 * vs.length
  | _, _, .nil => rfl
  | _, _, .snoc h _ _ => by have := h.len; simp only [List.length_append, List.length_cons, List.length_nil]; omega
def InnerAt (F : Value → Bool → Value → Prop) (v : Value) (y0 : List Value) : Nat → List Value → Prop
  | 0, ys => ys = y0
  | 1, ys => ∃ a, F v false a ∧ ys = y0 ++ [a]
  | 2, ys => ∃ a b, F v false a ∧ F v true b ∧ ys = y0 ++ [a, b]
  | _, _ => False
theorem InnerAt.len {F : Value → Bool → Value → Prop} {v : Value} {y0 : List Value} : ∀ {j ys}, InnerAt F v y0 j ys → ys.length ≤ y0.length + 2
  | 0, _, h => by cases h; omega
  | 1, _, ⟨a, _, e⟩ => by subst e; simp
  | 2, _, ⟨a, b, _, _, e⟩ => by subst e; simp
theorem InnerAt.snoc {F : Value → Bool → Value → Prop} {v : Value} {y0 : List Value} {c : Bool} {z : Value} : ∀ {j ys}, InnerAt F v y0 j ys → (#[97, 98] : Array Nat)[j]? = some (code c) → F v c z → InnerAt F v y0 (j + 1) (ys ++ [z])
  | 0, _, h, e, f => by
    cases c with
    | false => cases h; exact ⟨z, f, rfl⟩
    | true => cases e
  | 1, _, ⟨a, fa, h⟩, e, f => by
    cases c with
    | false => cases e
    | true => subst h; exact ⟨a, z, fa, f, by simp⟩
  | j + 2, _, _, e, _ => by simp at e

section
variable {prog : Program} {w : World} {A : Around} {E : Value → Shared → Prop} {s : Shared} {env : Env}
theorem twoA {elt iter : Expr} {x y z : PySem.Str} {px py pz p2 : Pos} {k2 : Nat} {scope : Scope} {cl : List (PySem.Str × Addr)} {pos spos : Pos} {Q : Flow → Shared → Prop} (F : Value → Bool → Value → Prop)
    (hh : A.handled = none) (hsw : swapsWith (.ListComp elt [⟨.Name x px, iter, [], 0⟩, ⟨.Name y py, .Constant (.str (Str.ofString "ab")) k2 p2, [], 0⟩] scope pos) (some (.Name z pz)) spos.line env = pure true)
    (hclos : closureFor scope env = pure cl) (hcell : ∀ q ∈ scope.names, q.2 ≠ .cell) (hkind : scope.kind = .function)
    (hnames : ∀ q ∈ scope.names, q.2 = .local → scope.names.lookup q.1 = some .local) (hx : scope.names.lookup x = some .local) (hy : scope.names.lookup y = some .local) (hxy : x ≠ y) (hz : env.kindOf z = some .local)
    (hp : (env.scope.kind == .class || (env.scope.kind == .module && env.locals != env.globals)) = false)
    (h : wpAny (model prog w) A (eval iter env) (fun xv s₁ => ∃ (ax : Addr) (ws : List Value) (m : PySem.Str → Option Value), xv = .ref ax ∧ s₁.heap.IsList ax ws.toArray ∧ 2 * ws.length + 2 ≤ sizeLine ∧ s₁.heap.Ns env.locals m ∧
      (∀ C v c u s₃ m₃, @LE.le Nat _ s₁.heap.objs.size C → v ∈ ws → s₃.heap.Ns C m₃ → m₃ x = some v → m₃ y = some (.str (letter c) u) → (∀ b o, s₁.heap.get? b = some o → s₃.heap.get? b = some o) → EltOk prog w A (compEnvC scope cl C env) elt (F v c) s₃) ∧
      (∀ D h' tk ys, s₁.heap.get? D = none → h'.PlainList D ys → TwoAre F ws ys.toList → h'.Ns env.locals (fun q => if q = z then some (.ref D) else m q) → (∀ b o, b ≠ env.locals → s₁.heap.get? b = some o → h'.get? b = some o) → Q .next { s₁ with heap := h', toks := tk })) E s)
    (hs : ∀ q, foldedSetIterable iter env q = pure q := by intro _; rfl) :
    wpAny (model prog w) A (exec (.Assign [.Name z pz] (.ListComp elt [⟨.Name x px, iter, [], 0⟩, ⟨.Name y py, .Constant (.str (Str.ofString "ab")) k2 p2, [], 0⟩] scope pos) spos) env) Q E s := by
  rw [exec_Assign_Name_used _ _ _ _ hsw]
  refine wpAny_bind (wpAny_standAt (wpAny_bind ?_))
  show wpAny _ A (do let _ ← comprehension (.ListComp elt [⟨.Name x px, iter, [], 0⟩, ⟨.Name y py, .Constant (.str (Str.ofString "ab")) k2 p2, [], 0⟩] scope pos) scope env _ (newList []) false (eval iter env) (some (assign (.Name z pz) env))) _ _ s
  refine wpAny_bind (wpAny_mono (wpAny_comprehension_free (use := some (assign (.Name z pz) env)) (Q := fun _ s' => Q .next s') rfl hs hclos hkind hnames
    (wpAny_mono h (fun xv s₁ h₁ => ?_) fun _ _ e => e)) (fun _ s' hq => wpAny_pure (wpAny_pure hq)) fun _ _ e => e)
  obtain ⟨ax, ws, m, rfl, hl, hsz, hns, hel, hdone⟩ := h₁
  obtain ⟨ol, hol, _⟩ := id hl
  have hax : @LT.lt Nat _ ax s₁.heap.objs.size := Heap.lt_size hol
  have hne : ax ≠ s₁.heap.objs.size := Nat.ne_of_lt hax
  have W := Walks.list (prog := prog) (w := w) (A := A) hh s₁.heap.objs.size ax hne ws.toArray
  refine wpAny_pyIter_list hl ?_
  refine wpAny_newObj_type (wpAny_newFunctionEnv hcell (by intro q hq; simp at hq) (fun h₁ hns₁ hsb₁ => ?_) hkind)
  dsimp only at hns₁ hsb₁ ⊢
  generalize hI : s₁.heap.objs.size = I at *
  have hit0 : (s₁.heap.push { cls := .type "list_iterator", data := .fields #[.ref ax, .int 0 0] }).IsListIter I ax 0 := ⟨_, hI ▸ Heap.get?_push_size _ rfl, rfl, rfl⟩
  have hIs : (s₁.heap.push { cls := .type "list_iterator", data := .fields #[.ref ax, .int 0 0] }).objs.size = I + 1 := by rw [Heap.size_push, hI]
  have up1 : ∀ b o, s₁.heap.get? b = some o → (s₁.heap.push { cls := .type "list_iterator", data := .fields #[.ref ax, .int 0 0] }).get? b = some o := fun b o e => Heap.get?_push_of_some _ e
  generalize hH1 : s₁.heap.push { cls := .type "list_iterator", data := .fields #[.ref ax, .int 0 0] } = H1 at *
  rw [hIs]
  have hDs : (H1.push { cls := .type "list", dict := none, data := .seq ([] : List Value).toArray }).objs.size = I + 1 + 1 := by rw [Heap.size_push, hIs]
  have hD0 : (H1.push { cls := .type "list", dict := none, data := .seq ([] : List Value).toArray }).PlainList (I + 1) #[] := ⟨_, hIs ▸ Heap.get?_push_size _ rfl⟩
  have up2 : ∀ b o, H1.get? b = some o → (H1.push { cls := .type "list", dict := none, data := .seq ([] : List Value).toArray }).get? b = some o := fun b o e => Heap.get?_push_of_some _ e
  generalize hH2 : H1.push { cls := .type "list", dict := none, data := .seq ([] : List Value).toArray } = H2 at *
  rw [hDs] at hns₁ hsb₁ ⊢
  have old : ∀ b o, @LT.lt Nat _ b (I + 1 + 1) → H2.get? b = some o → h₁.get? b = some o := fun b o l e => hsb₁.extBut b o (Nat.ne_of_lt l) (Heap.get?_push_of_some _ e)
  have hold : ∀ b o, s₁.heap.get? b = some o → @LT.lt Nat _ b I := fun b o e => hI ▸ Heap.lt_size e
  have up0 : ∀ b o, s₁.heap.get? b = some o → h₁.get? b = some o := fun b o e => old b o (by have := hold b o e; omega) (up2 b o (up1 b o e))
  have hst1 : h₁.IsListIter I ax 0 ∧ h₁.IsList ax ws.toArray := ⟨hit0.at fun o e => old I o (by omega) (up2 _ o e), hl.at fun o e => up0 _ o e⟩
  have hD1 : h₁.PlainList (I + 1) #[] := hD0.at fun o e => old _ o (by omega) e
  have hCs : @LT.lt Nat _ (I + 1 + 1) h₁.objs.size := hns₁.lt
  have hp' : ((compEnvC scope cl (I + 1 + 1) env).scope.kind == .class || ((compEnvC scope cl (I + 1 + 1) env).scope.kind == .module && (compEnvC scope cl (I + 1 + 1) env).locals != (compEnvC scope cl (I + 1 + 1) env).globals)) = false := by simp [compEnvC, relabel, hkind]
  have nfp : ∀ b, b ∈ [I, ax] → @LT.lt Nat _ b (I + 1) := fun b hb => by
    have hb' : b = I ∨ b = ax := by simpa using hb
    rcases hb' with rfl | rfl
    · exact Nat.lt_succ_self _
    · exact Nat.lt_succ_of_lt hax
  have loop : codeAny (model prog w) A (.compLoop (two elt (.Name x px) iter (.Name y py) (.Constant (.str (Str.ofString "ab")) k2 p2) scope pos) 0 (.ref I) (.ref (I + 1)) (compEnvC scope cl (I + 1 + 1) env))
      (compPost (model prog w) A E (some (assign (.Name z pz) env)) (fun _ s' => Q .next s') (.ref (I + 1)) (I + 1 + 1)) { s₁ with heap := h₁, toks := s₁.toks + ([] : List (PySem.Str × Value)).length } := by
    refine loop_two0 (fun k s' => ∃ i h tk m' ys, s' = { s₁ with heap := h, toks := tk } ∧ i ≤ ws.length ∧ k = ws.length - i ∧ (h.IsListIter I ax i ∧ h.IsList ax ws.toArray) ∧ h.Ns (I + 1 + 1) m' ∧ h.PlainList (I + 1) ys ∧ TwoAre F (ws.take i) ys.toList ∧ (∀ b o, s₁.heap.get? b = some o → h.get? b = some o)) ?_ ws.length
      ⟨0, h₁, _, _, #[], rfl, Nat.zero_le _, rfl, hst1, hns₁, hD1, by simpa using TwoAre.nil, up0⟩ (fun _ => rfl) (fun _ => rfl)
    rintro k s' ⟨i, h, tk, m', ys, rfl, hi, rfl, hst, hn, hD, hT, hk⟩
    by_cases hlt : i < ws.length
    · refine W.item i _ _ _ (by simpa using hlt) hst fun v h₂ tk₂ hPv hst₂ hk₂ => ?_
      have hv : ws[i]? = some v := by rw [← List.getElem?_toArray]; exact hPv
      have a1 : ∀ b, @LT.lt Nat _ I b → b ∉ [I] := fun b hb hm => by rw [List.mem_singleton.mp hm] at hb; exact Nat.lt_irrefl _ hb
      have a2 : ∀ b, @LT.lt Nat _ b I → b ∉ [I] := fun b hb hm => by rw [List.mem_singleton.mp hm] at hb; exact Nat.lt_irrefl _ hb
      refine wpAny_assign_Name (wpAny_storeName_local (lookup_relabel_local hx) (hn.at' fun o e => hk₂ _ o (a1 _ (by omega)) e) (fun h₃ hn₃ hs₃ => ?_) hp')
      refine wpAny_Constant_str ?_
      refine wpAny_pyIter_str fun oI St hW hstI => ?_
      have W2 := hW A hh
      rw [Around.mark_none]
      have hC3 : @LT.lt Nat _ (I + 1 + 1) h₃.objs.size := hn₃.lt
      generalize hJ : h₃.objs.size = J at *
      have up3 : ∀ b o, h₃.get? b = some o → (h₃.push oI).get? b = some o := fun b o e => Heap.get?_push_of_some _ e
      generalize hH4 : h₃.push oI = h₄ at *
      have k3 : ∀ b o, b ≠ I → b ≠ I + 1 + 1 → h.get? b = some o → h₄.get? b = some o := fun b o h1 h2 e => up3 b o (hs₃.extBut b o h2 (hk₂ b o (fun hm => h1 (List.mem_singleton.mp hm)) e))
      have hn4 : h₄.Ns (I + 1 + 1) _ := hn₃.keeps fun b o e => up3 b o e
      have hst4 : h₄.IsListIter I ax (i + 1) ∧ h₄.IsList ax ws.toArray := W.frame _ _ _ hst₂ fun b hb o e => up3 b o (hs₃.extBut b o (Nat.ne_of_lt (Nat.lt_succ_of_lt (nfp b hb))) e)
      have hD4 : h₄.PlainList (I + 1) ys := hD.at fun o e => k3 _ o (Nat.ne_of_gt (by omega)) (Nat.ne_of_lt (by omega)) e
      have hk4 : ∀ b o, s₁.heap.get? b = some o → h₄.get? b = some o := fun b o e => by
        have := hold b o e
        exact k3 b o (Nat.ne_of_lt this) (Nat.ne_of_lt (by omega)) (hk b o e)
      have hA2 : (tx [false, true]).cps.size = 2 := rfl
      have inner : ∀ s₅ : Shared, s₅ = { s₁ with heap := h₄, toks := tk₂ + 1 + 1 } → codeAny (model prog w) A (.compLoop (two elt (.Name x px) iter (.Name y py) (.Constant (.str (Str.ofString "ab")) k2 p2) scope pos) 1 (.ref J) (.ref (I + 1)) (compEnvC scope cl (I + 1 + 1) env))
          (fun r s₅ => match r with
            | .ok _ => ∃ n, n < ws.length - i ∧ (∃ i h tk m' ys, s₅ = { s₁ with heap := h, toks := tk } ∧ i ≤ ws.length ∧ n = ws.length - i ∧ (h.IsListIter I ax i ∧ h.IsList ax ws.toArray) ∧ h.Ns (I + 1 + 1) m' ∧ h.PlainList (I + 1) ys ∧ TwoAre F (ws.take i) ys.toList ∧ (∀ b o, s₁.heap.get? b = some o → h.get? b = some o))
            | .error e => cameBackBy (model prog w) A (compEnvC scope cl (I + 1 + 1) env) (notedBy (model prog w) A (compEnvC scope cl (I + 1 + 1) env) fun e s' => compPost (model prog w) A E (some (assign (.Name z pz) env)) (fun _ s' => Q .next s') (.ref (I + 1)) (I + 1 + 1) (.error e) s') e s₅) s₅ := by
        rintro s₅ rfl
        refine loop_two1 (fun k' s' => ∃ j h tk m' zs, s' = { s₁ with heap := h, toks := tk } ∧ j ≤ 2 ∧ k' = 2 - j ∧ St j h ∧ (h.IsListIter I ax (i + 1) ∧ h.IsList ax ws.toArray) ∧ h.Ns (I + 1 + 1) m' ∧ m' x = some v ∧ h.PlainList (I + 1) zs ∧ InnerAt F v ys.toList j zs.toList ∧ (∀ b o, s₁.heap.get? b = some o → h.get? b = some o)) ?_ 2
          ⟨0, h₄, _, _, ys, rfl, Nat.zero_le _, rfl, hstI, hst4, hn4, by simp, hD4, rfl, hk4⟩ (fun _ => rfl)
        rintro k' s' ⟨j, g, tg, mg, zs, rfl, hj, rfl, gst, git, gn, gx, gD, gI, gk⟩
        by_cases hjl : j < 2
        · refine W2.item j _ _ _ hjl gst fun v' g₂ tg₂ hPv' gst₂ gk₂ => ?_
          obtain ⟨ch, u, hch, rfl⟩ := hPv'
          have hcc : ∃ c, ch = code c := by
            have : j = 0 ∨ j = 1 := by omega
            rcases this with rfl | rfl
            · exact ⟨false, (Option.some.inj hch).symm⟩
            · exact ⟨true, (Option.some.inj hch).symm⟩
          obtain ⟨c, rfl⟩ := hcc
          have b1 : ∀ b, @LT.lt Nat _ b J → b ∉ [J] := fun b hb hm => by rw [List.mem_singleton.mp hm] at hb; exact Nat.lt_irrefl _ hb
          refine wpAny_assign_Name (wpAny_storeName_local (lookup_relabel_local hy) (gn.at' fun o e => gk₂ _ o (b1 _ hC3) e) (fun g₃ gn₃ gs₃ => ?_) hp')
          have gk3 : ∀ b o, b ≠ I + 1 + 1 → @LT.lt Nat _ b J → g.get? b = some o → g₃.get? b = some o := fun b o h2 hb e => gs₃.extBut b o h2 (gk₂ b o (b1 b hb) e)
          have gs1 : ∀ b o, s₁.heap.get? b = some o → g₃.get? b = some o := fun b o e => by
            have := hold b o e
            exact gk3 b o (Nat.ne_of_lt (by omega)) (by omega) (gk b o e)
          refine wpAny_mono (hel (I + 1 + 1) v c u _ _ (by omega) (List.mem_of_getElem? hv) gn₃ (by simp [hxy, gx]) (by simp; rfl) gs1 _) (fun zv s₆ h₆ => ?_) fun _ _ e => e
          obtain ⟨hF, g₆, tg₆, rfl, gk₆⟩ := h₆
          have gD6 : g₆.PlainList (I + 1) zs := gD.at fun o e => gk₆ _ o (gk3 _ o (Nat.ne_of_lt (by omega)) (by omega) e)
          refine wpAny_list_append_plain gD6 (fun g₇ gl₇ gs₇ => ?_) (by
            have e1 := gI.len
            have e2 := hT.len
            rw [Array.length_toList] at e1
            rw [List.length_take] at e2
            omega)
          refine ⟨2 - (j + 1), by omega, j + 1, g₇, tg₆, (fun q => if q = y then some (Value.str ⟨#[code c]⟩ u) else mg q), zs.push zv, rfl, hjl, rfl, ?_, ?_, ?_, ?_, gl₇, ?_, ?_⟩
          · exact W2.frame _ _ _ gst₂ fun b hb o e => gs₇.extBut b o (by rw [List.mem_singleton.mp hb]; exact Nat.ne_of_gt (by omega)) (gk₆ b o (gs₃.extBut b o (by rw [List.mem_singleton.mp hb]; exact Nat.ne_of_gt hC3) e))
          · exact W.frame _ _ _ git fun b hb o e => gs₇.extBut b o (Nat.ne_of_lt (nfp b hb)) (gk₆ b o (gk3 b o (Nat.ne_of_lt (Nat.lt_succ_of_lt (nfp b hb))) (Nat.lt_trans (nfp b hb) (by omega)) e))
          · exact (gn₃.keeps gk₆).sameBut gs₇ (Nat.ne_of_gt (Nat.lt_succ_self (I + 1)))
          · simp [hxy, gx]
          · rw [Array.toList_push]; exact gI.snoc hch hF
          · exact fun b o e => gs₇.extBut b o (by have := hold b o e; exact Nat.ne_of_lt (by omega)) (gk₆ b o (gs1 b o e))
        · have ej : j = 2 := by omega
          subst ej
          refine W2.done _ _ _ gst fun g₂ tg₂ gk₂ => ?_
          obtain ⟨a, b, fa, fb, e⟩ := gI
          have b1 : ∀ b, @LT.lt Nat _ b J → b ∉ [J] := fun b hb hm => by rw [List.mem_singleton.mp hm] at hb; exact Nat.lt_irrefl _ hb
          refine ⟨ws.length - (i + 1), by omega, i + 1, g₂, tg₂, mg, zs, rfl, hlt, rfl, ?_, gn.at' fun o e => gk₂ _ o (b1 _ hC3) e, gD.at fun o e => gk₂ _ o (b1 _ (by omega)) e, ?_, fun b o e => gk₂ b o (b1 b (by have := hold b o e; omega)) (gk b o e)⟩
          · exact W.frame _ _ _ git fun b hb o e => gk₂ b o (b1 b (Nat.lt_trans (nfp b hb) (by omega))) e
          · rw [e, List.take_add_one, hv]
            exact hT.snoc fa fb
      exact start_two1 (inner _ rfl) (W2.self 0 _ _ _ hstI (inner _ rfl))
    · have e : i = ws.length := by omega
      subst e
      refine W.done _ _ _ (by simpa using hst) fun h₂ tk₂ hk₂ => ?_
      have a1 : ∀ b, @LT.lt Nat _ I b → b ∉ [I] := fun b hb hm => by rw [List.mem_singleton.mp hm] at hb; exact Nat.lt_irrefl _ hb
      have a2 : ∀ b, @LT.lt Nat _ b I → b ∉ [I] := fun b hb hm => by rw [List.mem_singleton.mp hm] at hb; exact Nat.lt_irrefl _ hb
      rw [List.take_length] at hT
      have hLI : @LT.lt Nat _ env.locals I := by rw [← hI]; exact hns.lt
      have hnL : h₂.Ns env.locals m := hns.at' fun o e => hk₂ _ o (a2 _ hLI) (hk _ o e)
      show wpAny _ A (assign (.Name z pz) env (.ref (I + 1))) _ _ _
      refine wpAny_assign_Name (wpAny_storeName_local hz hnL (fun h₃ hn₃ hs₃ => ?_) hp)
      have hnC : h₂.Ns (I + 1 + 1) m' := hn.at' fun o e => hk₂ _ o (a1 _ (by omega)) e
      refine ⟨m', hnC.sameBut hs₃ (Nat.ne_of_gt (by omega)), fun h'' hs'' => ?_⟩
      refine hdone (I + 1) h'' _ ys ?_ (hD.at fun o e => hs''.extBut _ o (Nat.ne_of_lt (by omega)) (hs₃.extBut _ o (Nat.ne_of_gt (by omega)) (hk₂ _ o (a1 _ (by omega)) e))) hT (hn₃.sameBut hs'' (Nat.ne_of_lt (by omega))) fun b o hb e => ?_
      · cases q : s₁.heap.get? (I + 1) with
        | none => rfl
        | some o => have := hold _ o q; exact absurd this (by omega)
      · have hbI := hold b o e
        exact hs''.extBut b o (Nat.ne_of_lt (by omega)) (hs₃.extBut b o hb (hk₂ b o (a2 b hbI) (hk b o e)))
  exact codeAny_compStart_list loop (W.self 0 _ _ _ hst1 loop)
end
end Mine
end

section
open PySem PySem.W PySem.Calls PyProof.Rows PyProof.V PySem.Spec
set_option maxRecDepth 100000
set_option maxHeartbeats 2000000
namespace Mine
section
variable {prog : Program} {w : World} {A : Around} {E : Value → Shared → Prop} {s : Shared} {env : Env} {h₀ : Heap} {body : List Stmt} {Q : Flow → Shared → Prop}
def numItems (a b : Nat) : List Itm := (List.range' a b).map fun (i : Nat) => Itm.tok (fun t => .int (i : Int) t)
theorem numItems_cons (a b : Nat) : numItems a (b + 1) = Itm.tok (fun t => .int (a : Int) t) :: numItems (a + 1) b := by
  simp [numItems, List.range'_succ]
theorem rest_num {target : Expr} {ws : List (Addr × String)} (J : Nat → (PySem.Str → Option Value) → List (Addr × Obj) → Prop) (nn : Nat)
    (turn : ∀ i t h tk m news, i < nn → J i m news → Fr h₀ env.locals h m → AllObj ws (fun its => News h₀ env.locals h (its ++ news) →
      wpAny (model prog w) A (assign target env (.int (i : Int) t)) (fun _ s₂ => wpAny (model prog w) A (execs body env) (UnrPostW h₀ env.locals { s with heap := h, toks := tk } its (fun m' n' => SubL [] n' ∧ J (i + 1) m' n') Q) E s₂) E { s with heap := h, toks := tk }))
    (done : ∀ h tk m news, J nn m news → Fr h₀ env.locals h m → News h₀ env.locals h news → Q .next { s with heap := h, toks := tk }) :
    ∀ k i m news, i + k = nn → J i m news → ItemsRest prog w A E h₀ env target body Q s ws [] (numItems i k) m news
  | 0, i, m, news, e, hJ => by
    have e' : i = nn := e
    subst e'
    exact ItemsRest.zero fun h tk F N => done h tk m news hJ F N
  | k + 1, i, m, news, e, hJ => by
    rw [numItems_cons]
    refine ItemsRest.tok fun t h tk F => ?_
    refine rest_inv.allObj_mono (turn i t h tk m news (by omega) hJ F) fun its hN N => ?_
    refine wpAny_mono (hN N) (fun _ s₂ h₂ => wpAny_mono h₂ (fun f s₃ h₃ => ?_) fun _ _ e => e) fun _ _ e => e
    have up : ∀ s₃, UnrEndW h₀ env.locals { s with heap := h, toks := tk } its (fun m' n' => SubL [] n' ∧ J (i + 1) m' n') s₃ →
        UnrEndW h₀ env.locals { s with heap := h, toks := tk } its (fun m' n' => SubL [] n' ∧ ItemsRest prog w A E h₀ env target body Q s ws [] (numItems (i + 1) k) m' n') s₃ := by
      rintro s₃ ⟨h', tk', m', n', e1, F', N', off, _, hJ'⟩
      exact ⟨h', tk', m', n', e1, F', N', off, trivial, rest_num J nn turn done k (i + 1) m' n' (by omega) hJ'⟩
    cases f with
    | ret v => exact h₃
    | brk => exact h₃
    | next => exact up _ h₃
    | cont => exact up _ h₃

theorem turns_bounded {target : Expr} {I : Addr} {fp wr : List Addr} {n : Nat} {P Md : Nat → Value → Heap → Prop} {St : Nat → Heap → Prop} (W : KTurns prog w A target I fp wr n P Md St) :
    KTurns prog w A target I fp wr n (fun i v h => i < n ∧ P i v h) (fun i v h => i < n ∧ Md i v h) St where
  sub := W.sub
  frame := W.frame
  item := fun i s Q E hi st hQ => W.item i s Q E hi st fun v h' tk hm hk => hQ v h' tk ⟨hi, hm⟩ hk
  go := fun i v s Q E hm hQ => W.go i v s Q E hm.2 fun h' hp st hk => hQ h' ⟨hm.1, hp⟩ st hk
  done := W.done
theorem rangeInv {x : PySem.Str} {px : Pos} {n : Nat} {v : Int} {t : Tok} {m₀ : PySem.Str → Option Value} {news : List (Addr × Obj)} (J : Nat → (PySem.Str → Option Value) → List (Addr × Obj) → Prop)
    (hh : A.handled = none) (hv : v = (n : Int)) (hn : n ≤ 1000) (F : Fr h₀ env.locals s.heap m₀) (N : News h₀ env.locals s.heap news) (h0 : J 0 m₀ news)
    (turn : ∀ I i t h tk m nw, (∀ p ∈ news, p.1 < I) → i < n → J i m nw → Fr h₀ env.locals h m → AllObj [(I, "range_iterator")] (fun its => News h₀ env.locals h (its ++ nw) →
      wpAny (model prog w) A (assign (.Name x px) env (.int (i : Int) t)) (fun _ s₂ => wpAny (model prog w) A (execs body env) (UnrPostW h₀ env.locals { s with heap := h, toks := tk } its (fun m' n' => SubL [] n' ∧ J (i + 1) m' n') Q) E s₂) E { s with heap := h, toks := tk }))
    (done : ∀ h tk m nw, J n m nw → Fr h₀ env.locals h m → News h₀ env.locals h nw → Q .next { s with heap := h, toks := tk }) :
    wpAny (model prog w) A (call (.type "range") [.int v t]) (fun xv s₁ => wpAny (model prog w) A (pyIter xv) (fun it s₂ => TurnsAt prog w A h₀ env (.Name x px) body Q E it s₂) E s₁) E s := by
  subst hv
  have hLs : @LT.lt Nat _ env.locals s.heap.objs.size := F.ns.lt
  refine call_range_1 ?_
  have hsz : Builtin.Range.rangeSize 0 (n : Int) 1 = (n : Int) := by
    rw [rangeSize_one]
    split <;> omega
  refine wpAny_pyIter_range (IsRange.new _ _ _ _ _ _ _) (small_one (by omega) (by omega) (by omega) (by omega)) ?_
  dsimp only
  rw [hsz]
  have hz1 : (s.heap.push { cls := .type "range", data := .fields #[.int 0 s.toks, .int (n : Int) t, .int 1 (s.toks + 1)] }).objs.size = s.heap.objs.size + 1 := Heap.size_push ..
  generalize hH1 : s.heap.push { cls := .type "range", data := .fields #[.int 0 s.toks, .int (n : Int) t, .int 1 (s.toks + 1)] } = H1 at *
  have up1 : ∀ b o, s.heap.get? b = some o → H1.get? b = some o := fun b o e => hH1 ▸ Heap.get?_push_of_some _ e
  have up : ∀ b o, s.heap.get? b = some o → (H1.push { cls := .type "range_iterator", data := .fields #[rawInt 0, rawInt (n : Int), rawInt 1] }).get? b = some o := fun b o e => Heap.get?_push_of_some _ (up1 b o e)
  have hit : IsRangeIter (H1.push { cls := .type "range_iterator", data := .fields #[rawInt 0, rawInt (n : Int), rawInt 1] }) (s.heap.objs.size + 1) (0 + ((0 : Nat) : Int) * 1) ((n : Int) - ((0 : Nat) : Int)) 1 := by
    show Heap.get? _ _ = _
    rw [← hz1]
    exact Heap.get?_push_size _ rfl
  rw [hz1]
  refine ktu_core (s := s) (tk0 := s.toks + 1 + 1) (keep := []) (ws := [(s.heap.objs.size + 1, "range_iterator")]) (xs := numItems 0 n) (turns_bounded (KTurns.ofWalks (target := .Name x px) (Walks.range hh (s.heap.objs.size + 1) 0 1 n) fun i v s Q E st q => wpAny_of_eq (a := ()) rfl q))
    (by simp [numItems]) ?_ ?_ ?_ ?_ ?_ ?_ ?_ hit (F.keeps up) (N.grown up) trivial (rest_num J n (fun i t h tk m nw hi hJ F => turn _ i t h tk m nw (fun p hp => Nat.lt_succ_of_lt (Heap.lt_size (N p hp).1)) hi hJ F) done n 0 m₀ news (Nat.zero_add _) h0)
  · rintro i v h ⟨hi, t', rfl⟩
    refine ⟨Itm.tok (fun t => .int (i : Int) t), by simp [numItems, hi], t', ?_⟩
    simp
  · intro i h st
    exact ⟨[(s.heap.objs.size + 1, _)], ⟨⟨rfl, rfl⟩, trivial⟩, fun p hp => by rw [List.mem_singleton.mp hp]; exact st⟩
  · intro b hb
    have hb' : b = s.heap.objs.size + 1 := by simpa using hb
    rw [hb']
    exact ⟨by simp, ktu_new F (Nat.le_add_right _ _)⟩
  · intro b hb
    simpa using hb
  · intro b hb
    exact .inl (by simpa using hb)
  · intro hI'
    have hb' : env.locals = s.heap.objs.size + 1 := by simpa using hI'
    exact ktu_ne 1 hLs hb'
  · intro p hp hI'
    have hb' : p.1 = s.heap.objs.size + 1 := by simpa using hI'
    exact ktu_ne 1 (Heap.lt_size (N p hp).1) hb'
end
end Mine
end

section
open PySem PySem.W PySem.Calls PyProof.Rows
set_option maxRecDepth 100000
set_option maxHeartbeats 4000000
namespace Mine
theorem tx_snoc (w : List Bool) (c : Bool) : tx w ++ letter c = tx (w ++ [c]) := by
  show (⟨(tx w).cps ++ (letter c).cps⟩ : PySem.Str) = _
  unfold tx letter
  simp
def WordF (v : Value) (c : Bool) (z : Value) : Prop := ∃ wd t u, v = Value.str (tx wd) t ∧ z = Value.str (tx (wd ++ [c])) u
theorem tx_inj {a b : List Bool} (h : tx a = tx b) : a = b := by
  have h1 : a.map code = b.map code := by
    have := congrArg (fun s : PySem.Str => s.cps.toList) h
    simpa [tx] using this
  refine List.map_inj_right (f := code) (fun x y e => ?_) |>.mp h1
  cases x <;> cases y <;> first | rfl | cases e
theorem strs_snoc : ∀ {vs ws : List Value} {xs ys : List PySem.Str}, StrsAre vs xs → StrsAre ws ys → StrsAre (vs ++ ws) (xs ++ ys)
  | _, _, _, _, .nil, h => h
  | _, _, _, _, .cons _ _ r, h => .cons _ _ (strs_snoc r h)
theorem two_words {vs ys : List Value} (h : TwoAre WordF vs ys) : ∀ ws : List (List Bool), StrsAre vs (ws.map tx) → StrsAre ys ((ws.flatMap fun w => [w ++ [false], w ++ [true]]).map tx) := by
  induction h with
  | nil =>
    intro ws hs
    cases ws with
    | nil => exact .nil
    | cons a b => cases hs
  | snoc h f1 f2 ih =>
    intro ws hs
    rename_i vs ys v a b
    obtain ⟨ws', w, rfl⟩ : ∃ ws' w, ws = ws' ++ [w] := by
      have hl := StrsAre.length hs
      cases e : ws.reverse with
      | nil =>
        have : ws = [] := by simpa using e
        subst this
        simp at hl
      | cons w r => exact ⟨r.reverse, w, by rw [← List.reverse_reverse ws, e]; simp⟩
    have hsp : StrsAre vs (ws'.map tx) ∧ ∃ t, v = .str (tx w) t := strs_unsnoc (by simpa using hs)
    obtain ⟨h1, t, rfl⟩ := hsp
    obtain ⟨wd, t1, u1, e1, rfl⟩ := f1
    obtain ⟨wd2, t2, u2, e2, rfl⟩ := f2
    injection e1 with e1 _
    injection e2 with e2 _
    have := tx_inj e1
    subst this
    have := tx_inj e2
    subst this
    rw [List.flatMap_append, List.map_append]
    exact strs_snoc (ih ws' h1) (.cons _ _ (.cons _ _ .nil))
where
  strs_unsnoc : ∀ {vs : List Value} {v : Value} {xs : List PySem.Str} {x : PySem.Str}, StrsAre (vs ++ [v]) (xs ++ [x]) → StrsAre vs xs ∧ ∃ t, v = .str x t
    | [], v, [], x, h => by cases h with | cons _ t r => exact ⟨.nil, t, rfl⟩
    | [], v, y :: ys, x, h => by cases h with | cons _ t r => cases ys <;> cases r
    | a :: vs, v, [], x, h => by cases h with | cons _ t r => cases vs <;> cases r
    | a :: vs, v, y :: ys, x, h => by
      cases h with
      | cons _ t r =>
        obtain ⟨h1, h2⟩ := strs_unsnoc (vs := vs) (xs := ys) r
        exact ⟨.cons _ _ h1, h2⟩

theorem glue_fold : ∀ (l : List Bool) (acc : Array Nat), (l.map letter).foldl (fun acc p => acc ++ (Str.ofString "").cps ++ p.cps) acc = acc ++ (l.map code).toArray
  | [], acc => by simp
  | c :: l, acc => by
    rw [List.map_cons, List.foldl_cons, glue_fold l]
    have z : (Str.ofString "").cps = #[] := rfl
    rw [z]
    simp [letter]
theorem join_letters (bs : List Bool) : Txt.join (Str.ofString "") (bs.map letter) = tx bs := by
  unfold Txt.join Builtin.Str.glued
  cases bs with
  | nil => rfl
  | cons c l =>
    rw [List.map_cons, List.drop_succ_cons, List.drop_zero, List.headD_cons, glue_fold]
    simp [tx, letter]
def wantS (wd : List Bool) : PySem.Str := Str.ofString "..." ++ Txt.join (Str.ofString "") (wd.map fun c => letter c ++ Str.ofString "...")
end Mine
end

section
open PySem PySem.W PySem.Calls PyProof.Rows
set_option maxRecDepth 100000
set_option maxHeartbeats 4000000
namespace Mine
/-- where sub stands in what is left of the text, left to right, none upon another -/
def occW (sub : List Nat) : List Nat → Nat → Nat → List Nat
  | [], _, _ => []
  | c :: r, i, free => if free ≤ i ∧ (c :: r).take sub.length = sub then i :: occW sub r (i + 1) (i + sub.length) else occW sub r (i + 1) free
open PySem.StrLaws PySem.Builtin PySem.Builtin.Str in
theorem occ_run (s sub : PySem.Str) (limit : Nat) (h0 : 0 < sub.length) (hlim : s.length < limit) : ∀ (rest : List Nat) (i free : Nat) (acc : Array Nat), s.cps.toList.drop i = rest → i + rest.length = s.length → acc.size ≤ i →
    (forIn (List.range' i (s.length + 1 - i)) (acc, free) (occBody s sub s.length limit)).run.fst.toList = acc.toList ++ occW sub.cps.toList rest i free
  | [], i, free, acc, hd, hi, ha => by
    have e : s.length + 1 - i = 1 := by simp at hi; omega
    rw [e, List.range'_one, List.forIn_cons]
    unfold occBody
    rw [if_neg fun q => by have := q.1.2; simp at hi; omega]
    simp [occW]
  | c :: r, i, free, acc, hd, hi, ha => by
    rw [List.length_cons] at hi
    have hd' : s.cps.toList.drop (i + 1) = r := by rw [← List.drop_drop, hd]; rfl
    have e : s.length + 1 - i = (s.length + 1 - (i + 1)) + 1 := by omega
    have hsub : sub.cps.toList.length = sub.length := by simp [PySem.Str.length]
    rw [e, List.range'_succ, List.forIn_cons, occW]
    unfold occBody
    by_cases hc : free ≤ i ∧ (c :: r).take sub.cps.toList.length = sub.cps.toList
    · have hl : i + sub.length ≤ s.length := by
        have := congrArg List.length hc.2
        rw [List.length_take, hsub, List.length_cons] at this
        omega
      have hs : subAt s sub i = true := by
        rw [subAt_eq, hd, beq_iff_eq, ← hsub]
        exact hc.2
      rw [if_pos ⟨⟨⟨Nat.lt_of_le_of_lt ha (by omega), hc.1⟩, hl⟩, hs⟩, if_pos hc]
      have ih := occ_run s sub limit h0 hlim r (i + 1) (i + sub.length) (acc.push i) hd' (by omega) (by simp; omega)
      unfold occBody at ih
      rw [hsub]
      refine Eq.trans ih ?_
      simp
    · have hs : ¬ (((acc.size < limit ∧ free ≤ i) ∧ i + sub.length ≤ s.length) ∧ subAt s sub i = true) := fun q => hc ⟨q.1.1.2, by
        have := q.2
        rw [subAt_eq, hd, beq_iff_eq, ← hsub] at this
        exact this⟩
      rw [if_neg hs, if_neg hc]
      have ih := occ_run s sub limit h0 hlim r (i + 1) free acc hd' (by omega) (by omega)
      unfold occBody at ih
      exact ih
open PySem.StrLaws PySem.Builtin PySem.Builtin.Str in
theorem occ_W (s sub : PySem.Str) (h0 : 0 < sub.length) : occurrences s sub 0 s.length (s.length + 1) = occW sub.cps.toList s.cps.toList 0 0 := by
  rw [occ_eq]
  have := occ_run s sub (s.length + 1) h0 (by omega) s.cps.toList 0 0 #[] rfl (by simp [PySem.Str.length]) (Nat.le_refl _)
  exact this
def wantL (wd : List Bool) : List Nat := 46 :: 46 :: 46 :: wd.flatMap fun c => [code c, 46, 46, 46]
theorem dots_eq : Str.ofString "..." = ⟨#[46, 46, 46]⟩ := by decide +kernel
theorem nothing_eq : Str.ofString "" = ⟨#[]⟩ := rfl
theorem dots_fold : ∀ (l : List Bool) (acc : Array Nat), (l.map fun c => letter c ++ Str.ofString "...").foldl (fun acc p => acc ++ (Str.ofString "").cps ++ p.cps) acc = acc ++ (l.flatMap fun c => [code c, 46, 46, 46]).toArray
  | [], acc => by simp
  | c :: l, acc => by
    rw [List.map_cons, List.foldl_cons, dots_fold l]
    have z : (letter c ++ Str.ofString "...").cps = #[code c, 46, 46, 46] := by
      rw [dots_eq]
      show (letter c).cps ++ #[46, 46, 46] = _
      simp [letter]
    rw [z, nothing_eq]
    simp
theorem wantS_eq (wd : List Bool) : wantS wd = ⟨(wantL wd).toArray⟩ := by
  have e : Txt.join (Str.ofString "") (wd.map fun c => letter c ++ Str.ofString "...") = ⟨(wd.flatMap fun c => [code c, 46, 46, 46]).toArray⟩ := by
    unfold Txt.join Builtin.Str.glued
    cases wd with
    | nil => rfl
    | cons c l =>
      rw [List.map_cons, List.drop_succ_cons, List.drop_zero, List.headD_cons, dots_fold]
      have z : (letter c ++ Str.ofString "...").cps = #[code c, 46, 46, 46] := by
        rw [dots_eq]
        show (letter c).cps ++ #[46, 46, 46] = _
        simp [letter]
      rw [z]
      simp
  unfold wantS
  rw [e, dots_eq]
  show (⟨#[46, 46, 46] ++ _⟩ : PySem.Str) = _
  simp [wantL]
theorem wantL_len (wd : List Bool) : (wantL wd).length = 4 * wd.length + 3 := by
  unfold wantL
  simp only [List.length_cons]
  have : (wd.flatMap fun c => [code c, 46, 46, 46]).length = 4 * wd.length := by
    induction wd with
    | nil => rfl
    | cons c l ih => rw [List.flatMap_cons, List.length_append, ih, List.length_cons]; simp; omega
  omega
/-- the pieces of l between the cuts -/
def partsL (l : List Nat) (cuts : List Nat) (w : Nat) : List (List Nat) := ((0 :: cuts.map (· + w)).zip (cuts ++ [l.length])).map fun p => (l.drop p.1).take (p.2 - p.1)
theorem parts_L (l : List Nat) (cuts : List Nat) (w : Nat) : Builtin.Str.partsBetween ⟨l.toArray⟩ cuts w = (partsL l cuts w).map fun a => ⟨a.toArray⟩ := by
  unfold Builtin.Str.partsBetween partsL
  rw [List.map_map]
  have e : (⟨l.toArray⟩ : PySem.Str).length = l.length := rfl
  rw [e]
  refine List.map_congr_left fun p _ => ?_
  show (⟨(l.toArray).extract p.1 p.2⟩ : PySem.Str) = ⟨_⟩
  congr 1
  simp [List.extract_eq_take_drop]
def wantC (wd : List Bool) : Bool := partsL (wantL wd) (occW [46, 46, 46] (wantL wd) 0 0) 3 == [] :: (wd.map (fun c => [code c]) ++ [[]])
theorem want_tab : ([3, 4, 5].all fun M => (wordsB M).all wantC) = true := by decide +kernel
open PySem.StrLaws PySem.Builtin PySem.Builtin.Str in
theorem want_ok {M : Nat} {wd : List Bool} (h3 : 3 ≤ M) (h5 : M ≤ 5) (h : wd ∈ wordsB M) : Txt.split (wantS wd) (Str.ofString "...") = Str.ofString "" :: (wd.map letter ++ [Str.ofString ""]) ∧
    (Builtin.Str.occurrences (wantS wd) (Str.ofString "...") 0 (wantS wd).length 1).isEmpty = false ∧ (wantS wd).length ≤ 1000 := by
  have hC : wantC wd = true := by
    have hM : M ∈ [3, 4, 5] := by
      have : M = 3 ∨ M = 4 ∨ M = 5 := by omega
      rcases this with rfl | rfl | rfl <;> simp
    exact List.all_eq_true.mp (List.all_eq_true.mp want_tab M hM) wd h
  have hw : wd.length ≤ 5 := by
    have : ∀ (n : Nat) (w : List Bool), w ∈ wordsB n → w.length = n := fun n => by
      induction n with
      | zero => intro w hw; rw [wordsB, List.mem_singleton] at hw; rw [hw]; rfl
      | succ n ih =>
        intro w hw
        rw [wordsB, List.mem_flatMap] at hw
        obtain ⟨v, hv, h2⟩ := hw
        simp only [List.mem_cons, List.not_mem_nil, or_false] at h2
        have := ih v hv
        rcases h2 with rfl | rfl <;> simp [this]
    have := this M wd h
    omega
  have hlen : (⟨(wantL wd).toArray⟩ : PySem.Str).length = 4 * wd.length + 3 := by
    show (wantL wd).length = _
    exact wantL_len wd
  have hf : ((occurrences ⟨(wantL wd).toArray⟩ ⟨#[46, 46, 46]⟩ 0 (⟨(wantL wd).toArray⟩ : PySem.Str).length 1).isEmpty) = false := by
    have := (found_iff ⟨(wantL wd).toArray⟩ ⟨#[46, 46, 46]⟩).mpr ⟨0, by rw [hlen]; show 0 + 3 ≤ _; omega, by
      rw [subAt_eq]
      rfl⟩
    rwa [Bool.not_eq_true'] at this
  rw [wantS_eq, dots_eq, nothing_eq]
  refine ⟨?_, hf, by rw [hlen]; omega⟩
  have ho : occurrences ⟨(wantL wd).toArray⟩ ⟨#[46, 46, 46]⟩ 0 (⟨(wantL wd).toArray⟩ : PySem.Str).length ((⟨(wantL wd).toArray⟩ : PySem.Str).length + 1) = occW [46, 46, 46] (wantL wd) 0 0 := occ_W _ _ (by decide)
  have hk : ¬ PySem.Builtin.Str.strKind ⟨(wantL wd).toArray⟩ < PySem.Builtin.Str.strKind ⟨#[46, 46, 46]⟩ := by
    have e : PySem.Builtin.Str.strKind ⟨#[46, 46, 46]⟩ = 1 := by decide +kernel
    rw [e]
    unfold PySem.Builtin.Str.strKind
    repeat' split
    all_goals omega
  have hl2 : ¬ (⟨(wantL wd).toArray⟩ : PySem.Str).length < (⟨#[46, 46, 46]⟩ : PySem.Str).length := by
    rw [hlen]
    show ¬ _ < 3
    omega
  unfold Txt.split
  rw [decide_eq_false hl2, decide_eq_false hk, if_neg (by decide), ho]
  have hp := beq_iff_eq.mp hC
  rw [if_neg ?_, show (⟨#[46, 46, 46]⟩ : PySem.Str).length = 3 from rfl, parts_L, hp]
  · simp only [List.map_cons, List.map_append, List.map_map, List.map_nil]
    rfl
  · intro he
    have : occW [46, 46, 46] (wantL wd) 0 0 = [] := by simpa using he
    rw [this] at hp
    have h1 := congrArg List.length hp
    simp [partsL] at h1
end Mine
end

section
open PySem PySem.W PySem.Calls PyProof.Rows
set_option maxRecDepth 100000
set_option maxHeartbeats 2000000
namespace Mine
theorem text_up : ∀ (ts : List PySem.Str) (k : Nat) (acc : PySem.Str), (textFrom k acc ts).length ≤ acc.length + (ts.map fun t => t.length + 2).sum
  | [], k, acc => by simp [textFrom]
  | t :: ts, k, acc => by
    rw [textFrom]
    refine Nat.le_trans (text_up ts _ _) ?_
    simp only [List.map_cons, List.sum_cons]
    have hl : ∀ a b : PySem.Str, (a ++ b).length = a.length + b.length := fun a b => by
      show (⟨a.cps ++ b.cps⟩ : PySem.Str).length = _
      simp [PySem.Str.length]
    have h2 : (", " : PySem.Str).length = 2 := by decide +kernel
    have h0 : ("" : PySem.Str).length = 0 := by decide +kernel
    split <;> simp only [hl, h2, h0] <;> omega
theorem list_up (ts : List PySem.Str) : (listText ts).length ≤ 2 + (ts.map fun t => t.length + 2).sum := by
  unfold listText
  have hl : ∀ a b : PySem.Str, (a ++ b).length = a.length + b.length := fun a b => by
    show (⟨a.cps ++ b.cps⟩ : PySem.Str).length = _
    simp [PySem.Str.length]
  have h1 : ("[" : PySem.Str).length = 1 := by decide +kernel
  have h2 : ("]" : PySem.Str).length = 1 := by decide +kernel
  have := text_up ts 0 "["
  rw [hl, h2]
  omega
def dT (l : List (List Bool)) (c : Int) : PyData := .list [.list (l.map fun w => .str (tx w)), .list [.int c]]
theorem all_shown : ∀ l : List (List Bool), PyData.shownAll (l.map fun w => .str (tx w)) = l.map fun w => reprText (tx w)
  | [] => rfl
  | w :: l => by rw [List.map_cons, PyData.shownAll, all_shown l, List.map_cons, PyData.shown]
theorem repr_tx {w : List Bool} (h : w.length ≤ 5) : (reprText (tx w)).length ≤ 52 := by
  refine Nat.le_trans (StrLaws.reprText_len (tx w) fun c hc => ?_) ?_
  · have : c ∈ w.map code := by simpa [tx] using hc
    obtain ⟨b, _, rfl⟩ := List.mem_map.mp this
    cases b <;> decide
  · rw [tx_len]; omega
theorem sum_le : ∀ (l : List (List Bool)), (∀ w ∈ l, w.length ≤ 5) → ((l.map fun w => reprText (tx w)).map fun t => t.length + 2).sum ≤ 54 * l.length
  | [], _ => by simp
  | w :: l, h => by
    simp only [List.map_cons, List.sum_cons, List.length_cons]
    have h1 := repr_tx (h w (List.mem_cons_self ..))
    have h2 := sum_le l fun x hx => h x (List.mem_cons_of_mem _ hx)
    simp only [List.map_map] at h2 ⊢
    omega
theorem int_small : ∀ c ∈ List.range 64, (PyData.int (c : Int)).shown.length ≤ 4 := by decide +kernel
theorem shown_dT {l : List (List Bool)} {c : Nat} (hl : l.length ≤ 32) (hw : ∀ w ∈ l, w.length ≤ 5) (hc : c < 64) : (dT l (c : Int)).shown.length ≤ sizeLine := by
  have h1 := int_small c (List.mem_range.mpr hc)
  have h2 := sum_le l hw
  rw [dT, PyData.shown, PyData.shownAll, PyData.shown, all_shown, PyData.shownAll, PyData.shown, PyData.shownAll, PyData.shownAll, PyData.shownAll]
  have a1 := list_up (l.map fun w => reprText (tx w))
  have a2 := list_up [(PyData.int (c : Int)).shown]
  refine Nat.le_trans (list_up _) ?_
  simp only [List.map_cons, List.map_nil, List.sum_cons, List.sum_nil] at *
  rw [sizeLine_eq]
  omega
theorem showable_words : ∀ l : List (List Bool), PyData.showableAll (l.map fun w => .str (tx w)) = true
  | [] => rfl
  | w :: l => by rw [List.map_cons, PyData.showableAll, showable_words l]; rfl
theorem noDict_words : ∀ l : List (List Bool), PyData.hasDictAll (l.map fun w => .str (tx w)) = false
  | [] => rfl
  | w :: l => by rw [List.map_cons, PyData.hasDictAll, noDict_words l]; rfl
theorem showable_dT {l : List (List Bool)} {c : Nat} (hc : c < 64) : (dT l (c : Int)).showable = true := by
  have h1 : ∀ c ∈ List.range 64, (PyData.int (c : Int)).showable = true := by decide +kernel
  have h2 := h1 c (List.mem_range.mpr hc)
  simp only [dT, PyData.showable, PyData.showableAll, showable_words, Bool.and_true, Bool.true_and] at h2 ⊢
  exact h2
theorem noDict_dT {l : List (List Bool)} {c : Int} : (dT l c).hasDict = false := by
  simp only [dT, PyData.hasDict, PyData.hasDictAll, noDict_words, Bool.or_false]
theorem depth_words : ∀ l : List (List Bool), PyData.depthAll (l.map fun w => .str (tx w)) ≤ 1
  | [] => by decide
  | w :: l => by
    have := depth_words l
    rw [List.map_cons, PyData.depthAll]
    have e : (PyData.str (tx w)).depth ≤ 1 := by simp [PyData.depth]
    omega
theorem reads_words {h : Heap} : ∀ {ys : List Value} {l : List (List Bool)}, StrsAre ys (l.map tx) → ∃ as, ReadsAll h ys (l.map fun w => .str (tx w)) as
  | _, [], .nil => ⟨[], .nil⟩
  | _, w :: l, .cons _ t r => by
    obtain ⟨as, q⟩ := reads_words r
    exact ⟨_, .cons (.str _ _) q⟩
theorem reads_dT {h : Heap} {a D DS : Addr} {ys wS : List Value} {n1 n2 n3 : Nat} {l : List (List Bool)} {c : Int} (ha : h.get? a = some (PySem.W.listOf #[.ref D, .ref DS] n1)) (hD : h.get? D = some (PySem.W.listOf (List.toArray ys) n2)) (hS : h.get? DS = some (PySem.W.listOf (List.toArray wS) n3))
    (h1 : StrsAre ys (l.map tx)) (h2 : IntsAre wS [c]) : ∃ as, Reads h (.ref a) (dT l c) as := by
  obtain ⟨as, q⟩ := reads_words (h := h) h1
  cases h2 with
  | cons _ t r =>
    cases r
    exact ⟨_, .list ha rfl rfl (.cons (.list hD rfl rfl q) (.cons (.list hS rfl rfl (.cons (.int _ _) .nil)) .nil))⟩
section
variable {prog : Program} {w : World} {A : Around} {E : Value → Shared → Prop} {s : Shared}
theorem str_dT {a : Addr} {l : List (List Bool)} {c : Nat} {as : List Addr} {Q : Value → Shared → Prop} (r : Reads s.heap (.ref a) (dT l (c : Int)) as) (hl : l.length ≤ 32) (hw : ∀ w ∈ l, w.length ≤ 5) (hc : c < 64) (hg : A.guards = some []) (hu : A.units + 20 < cLine)
    (hQ : ∀ h' u tk, (∀ b o, s.heap.get? b = some o → h'.get? b = some o) → Q (.str (dT l (c : Int)).shown u) { s with heap := h', toks := tk }) :
    wpAny (model prog w) A (call (.type "str") [.ref a]) Q E s := by
  refine str_of_reads r (showable_dT hc) (fun h => by rw [noDict_dT] at h; cases h) hg ?_ (fun _ _ e => e) hQ (shown_dT hl hw hc)
  have hd : (dT l (c : Int)).depth ≤ 10 := by
    have := depth_words l
    simp only [dT, PyData.depth, PyData.depthAll]
    omega
  omega
end
end Mine
end

section
open PySem PySem.W PySem.Calls PyProof.Rows
set_option maxRecDepth 100000
set_option maxHeartbeats 2000000
namespace Mine
theorem walks_bounded {prog : Program} {w : World} {A : Around} {I : Addr} {fp wr : List Addr} {n : Nat} {P : Nat → Value → Prop} {St : Nat → Heap → Prop} (W : Walks prog w A I fp wr n P St) : Walks prog w A I fp wr n (fun i v => i < n ∧ P i v) St where
  sub := W.sub
  frame := W.frame
  item := fun i s Q E hi st hQ => W.item i s Q E hi st fun v h' tk hP st' hk => hQ v h' tk ⟨hi, hP⟩ st' hk
  done := W.done
  self := W.self
section
variable {prog : Program} {w : World} {A : Around} {E : Value → Shared → Prop} {s : Shared} {env : Env}
theorem rangeCA {elt iter : Expr} {x y : PySem.Str} {px py : Pos} {scope : Scope} {cl : List (PySem.Str × Addr)} {pos spos : Pos} {Q : Flow → Shared → Prop} (F : Nat → Value → Prop)
    (hh : A.handled = none) (hsw : swapsWith (.ListComp elt [⟨.Name x px, iter, [], 0⟩] scope pos) (some (.Name y py)) spos.line env = pure true) (hclos : closureFor scope env = pure cl) (hcell : ∀ y ∈ scope.names, y.2 ≠ .cell) (hkind : scope.kind = .function)
    (hnames : ∀ y ∈ scope.names, y.2 = .local → scope.names.lookup y.1 = some .local) (hx : scope.names.lookup x = some .local) (hy : env.kindOf y = some .local) (hp : (env.scope.kind == .class || (env.scope.kind == .module && env.locals != env.globals)) = false)
    (h : wpAny (model prog w) A (eval iter env) (fun xv s₁ => ∃ (R : Addr) (n : Nat) (t u v : Tok) (m : PySem.Str → Option Value), xv = .ref R ∧ IsRange s₁.heap R 0 (n : Int) 1 t u v ∧ n ≤ 1000 ∧ s₁.heap.Ns env.locals m ∧
      (∀ C i t s₃ m₃, @LE.le Nat _ s₁.heap.objs.size C → i < n → s₃.heap.Ns C m₃ → m₃ x = some (.int ((i : Nat) : Int) t) → (∀ b o, s₁.heap.get? b = some o → s₃.heap.get? b = some o) → EltOk prog w A (compEnvC scope cl C env) elt (F i) s₃) ∧
      (∀ D h' tk ys, s₁.heap.get? D = none → h'.PlainList D ys → (∃ vs : List Value, vs.length = n ∧ Paired (fun v y => ∃ (i : Nat) (t : Tok), v = .int (i : Int) t ∧ F i y) vs ys.toList ∧ ∀ (j : Nat) v, vs[j]? = some v → ∃ t, v = .int (j : Int) t) → h'.Ns env.locals (fun z => if z = y then some (.ref D) else m z) → (∀ b o, b ≠ env.locals → s₁.heap.get? b = some o → h'.get? b = some o) → Q .next { s₁ with heap := h', toks := tk })) E s)
    (hs : ∀ x, foldedSetIterable iter env x = pure x := by intro _; rfl) :
    wpAny (model prog w) A (exec (.Assign [.Name y py] (.ListComp elt [⟨.Name x px, iter, [], 0⟩] scope pos) spos) env) Q E s := by
  refine wpAny_Assign_ListComp_free (fun _ => true) (fun v y => ∃ (i : Nat) (t : Tok), v = .int (i : Int) t ∧ F i y) hsw hclos hcell hkind hnames hx hy hp (wpAny_mono h (fun xv s₁ h₁ => ?_) fun _ _ e => e) hs
  obtain ⟨R, n, t, u, v, m, rfl, hR, hn, hns, hel, hdone⟩ := h₁
  have hsz : Builtin.Range.rangeSize 0 (n : Int) 1 = (n : Int) := by
    rw [rangeSize_one]
    split <;> omega
  refine wpAny_pyIter_range hR (small_one (by omega) (by omega) (by omega) (by omega)) ?_
  rw [hsz]
  have up : ∀ b o, s₁.heap.get? b = some o → b ∉ [s₁.heap.objs.size] ∧ (s₁.heap.push { cls := .type "range_iterator", data := .fields #[rawInt 0, rawInt (n : Int), rawInt 1] }).get? b = some o := fun b o e =>
    ⟨fun hm => by rw [List.mem_singleton.mp hm] at e; exact Nat.lt_irrefl _ (Heap.lt_size e), Heap.get?_push_of_some _ e⟩
  have hz : (s₁.heap.push { cls := .type "range_iterator", data := .fields #[rawInt 0, rawInt (n : Int), rawInt 1] }).objs.size = s₁.heap.objs.size + 1 := Heap.size_push ..
  have zle : @LE.le Nat _ s₁.heap.objs.size (s₁.heap.push { cls := .type "range_iterator", data := .fields #[rawInt 0, rawInt (n : Int), rawInt 1] }).objs.size := by rw [hz]; exact Nat.le_succ _
  have hit : IsRangeIter (s₁.heap.push { cls := .type "range_iterator", data := .fields #[rawInt 0, rawInt (n : Int), rawInt 1] }) s₁.heap.objs.size (0 + ((0 : Nat) : Int) * 1) ((n : Int) - ((0 : Nat) : Int)) 1 := Heap.get?_push_size _ rfl
  refine ⟨s₁.heap.objs.size, _, _, _, _, _, m, rfl, walks_bounded (Walks.range hh s₁.heap.objs.size 0 1 n), by rw [sizeLine_eq]; omega, hit, ?_, ?_, hns.at' fun o e => (up _ o e).2, ⟨?_, ?_⟩, ?_⟩
  · intro b hb
    rw [List.mem_singleton.mp hb]
    show @LT.lt Nat _ _ _
    rw [hz]
    exact Nat.lt_succ_self _
  · obtain ⟨oL, _, _, hL, _⟩ := hns
    exact (up _ _ hL).1
  · intro C i v s₃ m₃ E' hC hP hn' hm hk _
    exact wpAny_tests_nil ⟨rfl, Keeps.refl _⟩
  · rintro C i v s₃ m₃ E' hC ⟨hi, t', rfl⟩ _ hn' hm hk _
    have e : (0 : Int) + (i : Int) * 1 = (i : Int) := by omega
    rw [e] at hm ⊢
    refine wpAny_mono (hel C i t' s₃ m₃ (Nat.le_trans zle hC) hi hn' hm (fun b o e => hk b o (up b o e).1 (up b o e).2) E') (fun yv s₄ h₄ => ⟨⟨i, t', rfl, h₄.1⟩, h₄.2⟩) fun _ _ e => e
  · intro D h' tk ys vs hD _ hpl hlen hP hF hn' hk
    rw [List.filter_eq_self.mpr fun _ _ => rfl] at hF
    refine hdone D h' tk ys ?_ hpl ⟨vs, hlen, hF, fun j v e => ?_⟩ hn' fun b o hb e => hk b o hb (up b o e).1 (up b o e).2
    · cases q : s₁.heap.get? D with
      | none => rfl
      | some o => have := (up D o q).2; dsimp only at hD; rw [hD] at this; cases this
    · obtain ⟨_, t', rfl⟩ := hP j v e
      exact ⟨t', by rw [show (0 : Int) + (j : Int) * 1 = (j : Int) by omega]⟩
end
theorem pow_tab : ∀ W ∈ [7, 8, 9, 10, 11], ∀ i ∈ List.range 8, 2 ^ (W * i) ≤ (2 ^ W + 1) ^ i ∧ (2 ^ W + 1) ^ i < 2 ^ (W * i + 1) := by decide +kernel
theorem pow_bits {W i : Nat} {x n : Int} (h7 : 7 ≤ W) (h11 : W ≤ 11) (hi : i < 8) (hx : x = (((2 ^ W + 1) ^ i : Nat) : Int)) (hn : n = (W : Int)) : ((Builtin.Int.intBits x : Nat) + n - 1 : Int).fdiv n = ((i + 1 : Nat) : Int) := by
  have hW : W ∈ [7, 8, 9, 10, 11] := by
    have : W = 7 ∨ W = 8 ∨ W = 9 ∨ W = 10 ∨ W = 11 := by omega
    rcases this with rfl | rfl | rfl | rfl | rfl <;> simp
  obtain ⟨h1, h2⟩ := pow_tab W hW i (List.mem_range.mpr hi)
  subst hx hn
  have a1 : Builtin.Int.intBits (((2 ^ W + 1) ^ i : Nat) : Int) ≤ W * i + 1 := intBits_le_iff.mpr (by rw [Int.natAbs_natCast]; exact h2)
  have a2 : ¬ Builtin.Int.intBits (((2 ^ W + 1) ^ i : Nat) : Int) ≤ W * i := fun h => by
    have := intBits_le_iff.mp h
    rw [Int.natAbs_natCast] at this
    omega
  have e : Builtin.Int.intBits (((2 ^ W + 1) ^ i : Nat) : Int) = W * i + 1 := by omega
  rw [e, Int.fdiv_eq_ediv_of_nonneg _ (by omega)]
  have e2 : (((W * i + 1 : Nat) : Int)) + (W : Int) - 1 = ((W * (i + 1) : Nat) : Int) := by
    rw [Nat.mul_add]
    omega
  rw [e2, ← Int.natCast_ediv]
  congr 1
  rw [Nat.mul_comm]
  exact Nat.mul_div_cancel _ (by omega)
theorem most_at {W i : Nat} (h7 : 7 ≤ W) (h11 : W ≤ 11) (hi : i < 8) : ((digs W (i + 1) ((2 ^ W + 1) ^ i)).take (8 - i)).sum = mostC.getD i 0 := by
  have hW : W ∈ [7, 8, 9, 10, 11] := by
    have : W = 7 ∨ W = 8 ∨ W = 9 ∨ W = 10 ∨ W = 11 := by omega
    rcases this with rfl | rfl | rfl | rfl | rfl <;> simp
  have e := tabM W hW
  have h3 : ∀ l l' : List Nat, l = l' → l.getD i 0 = l'.getD i 0 := fun _ _ h => by rw [h]
  rw [← h3 _ _ e]
  simp [List.getD, hi]
end Mine
end

section
open PySem PySem.W PySem.Calls PyProof.Rows
set_option maxRecDepth 100000
set_option maxHeartbeats 2000000
namespace Mine
theorem aa_tab : ∀ bs ∈ allB 7, ∀ c ∈ [false, true], ((List.range' 0 8).find? fun i => decide (i + 2 ≤ 7 ∧ Builtin.Str.subAt (tx bs) (tx [c, c]) i = true)).isNone = !dbl c bs := by decide +kernel
theorem aa_in {bs : List Bool} (hb : bs.length = 7) (c : Bool) : (Builtin.Str.occurrences (tx bs) (tx [c, c]) 0 (tx bs).length 1).isEmpty = !dbl c bs := by
  have h := aa_tab bs (mem_allB hb) c (by cases c <;> simp)
  have e1 : (tx bs).length = 7 := by rw [tx_len, hb]
  have e : (tx [c, c]).length = 2 := rfl
  rw [e1, occ_find, e]
  rw [← h]
  cases (List.range' 0 8).find? fun i => decide (i + 2 ≤ 7 ∧ Builtin.Str.subAt (tx bs) (tx [c, c]) i = true) <;> rfl
theorem last_law {bs : List Bool} (hb : bs.length = 7) : (decide (((DI bs).map fun (d : Nat) => (d : Int)) = (mostC.map fun (d : Nat) => (d : Int)))) = (!dbl false bs && !dbl true bs) := by
  have h1 := (tab7 bs (mem_allB hb)).2.2
  have h2 := (tabC bs (mem_allB hb)).2
  rw [← h1] at h2
  rw [← h2]
  have inj : (((DI bs).map fun (d : Nat) => (d : Int)) = (mostC.map fun (d : Nat) => (d : Int))) ↔ DI bs = mostC := List.map_inj_right fun a b e => by omega
  by_cases e : DI bs = mostC
  · rw [decide_eq_true (inj.mpr e), e]; rfl
  · rw [decide_eq_false fun h => e (inj.mp h)]
    exact (beq_false_of_ne e).symm
end Mine
end

section
open PySem PySem.W PySem.Calls PyProof.Rows
set_option maxRecDepth 100000
set_option maxHeartbeats 8000000
namespace Mine
section
variable {prog : Program} {w : World} {A : Around} {E : Value → Shared → Prop} {s : Shared} {h₀ : Heap} {L : Addr} {m : PySem.Str → Option Value} {news : List (Addr × Obj)}
theorem len_script {l : Addr} {vs : List Value} {ns : List Int} {Q : Value → Shared → Prop} (hl : s.heap.IsList l vs.toArray) (hi : IntsAre vs ns) (h63 : ¬ ((63 : Nat) : Int) < (ns.length : Int)) (hq : ∀ t k, Q (.int (ns.length : Int) t) { s with toks := k }) : wpAny (model prog w) A (call (.builtin "len") [.ref l]) Q E s := by
  have e : vs.toArray.size = ns.length := by rw [List.size_toArray, hi.length]
  refine call_len_list hl (by rw [e]; omega) ?_
  rw [e]
  exact hq _ _
theorem sub_opsW {value slice : Expr} {o i : Value} {T id : String} {ops : List Value} {Q : Value → Shared → Prop} (hT : s.TypeIs o T)
    (hl : typeLookup (.type T) "__getitem__" = pure (some (.builtin id))) (h : wpAny (model prog w) A (getItem o i) Q E s)
    (hs : subscripted slice false o i = operate ops (getItem o i)) :
    wpAny (model prog w) A (subscriptTail value slice o i) Q E s := by
  unfold subscriptTail
  refine wpAny_bind ?_
  rw [getitemInPython_of_ne hT.not_modules]
  refine wpAny_bind (wpAny_specialOf hT hl ?_)
  have fin : wpAny (model prog w) A (subscripted slice false o i) (fun r s₃ => wpAny (model prog w) A (letTemporaryGo value o r >>= fun _ => pure r) Q E s₃) E s := by
    rw [hs]
    exact wpAny_operating (wpAny_mono h (fun r s₃ h₃ => wpAny_bind (wpAny_letTemporaryGo (wpAny_pure h₃))) fun _ _ x => x)
  first
    | exact wpAny_pure (wpAny_bind fin)
    | exact wpAny_bind (wpAny_pure (wpAny_bind fin))
    | exact wpAny_bind fin
theorem slice_from {value slice : Expr} {l : Addr} {vs : List Value} {ns : List Int} {x : Int} {tx : Tok} {Q : Value → Shared → Prop}
    (F : Fr h₀ L s.heap m) (N : News h₀ L s.heap news) (hl : s.heap.IsList l vs.toArray) (hi : IntsAre vs ns) (h0 : 0 ≤ x)
    (h : ∀ D ws h', Fr h₀ L h' m → News h₀ L h' ((D, PySem.W.listOf (List.toArray ws) 0) :: news) → (∀ p ∈ news, p.1 < D) → IntsAre ws (ns.drop x.toNat) → Q (.ref D) { s with heap := h' })
    (hs : subscripted slice false (.ref l) (.ref s.heap.objs.size) = operate [.ref s.heap.objs.size, .ref l] (getItem (.ref l) (.ref s.heap.objs.size)))
    (hsz : vs.toArray.size ≤ sizeLine) :
    wpAny (model prog w) A (subscriptTail value slice (.ref l) (.ref s.heap.objs.size)) Q E { s with heap := s.heap.push { cls := .type "slice", data := .fields #[.int x tx, .none, .none] } } := by
  refine sub_opsW (Heap.IsList.typeIs (s := { s with heap := s.heap.push { cls := .type "slice", data := .fields #[.int x tx, .none, .none] } }) (hl.push _)) list_getitem_lookup
    (wpAny_getItem_list_slice (hl.push _) (Heap.IsSliceOf.new ..) (IsPart.int x tx) IsPart.none .none (by simp) ?_ hsz) hs
  have N1 := News.push (F.push { cls := .type "slice", data := .fields #[.int x tx, .none, .none] }) (N.grown fun _ _ e => Heap.get?_push_of_some _ e) { cls := .type "list", data := .seq (slicePick vs.toArray (some x) none none) }
  refine h _ (slicePick vs.toArray (some x) none none).toList _ ((F.push _).push _) ?_ ?_ (kmk_from hi h0)
  · rw [Array.toArray_toList]
    exact N1
  · intro p hp
    rw [Heap.size_push]
    exact Nat.lt_succ_of_lt (Heap.lt_size (N p hp).1)
end
end Mine
end

section
open PySem PySem.W PySem.Calls PyProof.Rows
set_option maxRecDepth 100000
set_option maxHeartbeats 4000000
namespace Mine
def bit (k : Int) : Bool := decide (k.fmod 2 = 1)
theorem item_ab (k : Int) : Txt.item (Str.ofString "ab") (k.fmod 2) = letter (bit k) := by
  have h : k.fmod 2 = 0 ∨ k.fmod 2 = 1 := by rw [Int.fmod_eq_emod_of_nonneg _ (by decide)]; omega
  rcases h with h | h <;> rw [bit, h] <;> rfl
theorem strs_pair : ∀ {vs : List Value} {ns : List Int} {ys : List Value}, IntsAre vs ns → Paired (fun v y => ∃ k t u, v = Value.int k t ∧ y = Value.str (letter (bit k)) u) vs ys → StrsAre ys (ns.map fun k => letter (bit k))
  | _, _, _, .nil, .nil => .nil
  | _, _, _, .cons n t h, .cons ⟨k, t', u, e, e'⟩ r => by
    cases e
    subst e'
    exact .cons _ _ (strs_pair h r)
theorem ns_len (xs : List Int) : (List.take 7 xs ++ List.drop (xs.length : Int).toNat [0, 1, 1, 0, 1, 0, 1]).length = 7 := by
  rw [List.length_append, List.length_take, List.length_drop, Int.toNat_natCast]
  show min 7 xs.length + (7 - xs.length) = 7
  omega
theorem ints_mem : ∀ {vs : List Value} {ns : List Int}, IntsAre vs ns → ∀ v ∈ vs, ∃ k t, v = Value.int k t
  | _, _, .nil, v, h => by cases h
  | _, _, .cons n t r, v, h => by
    rcases List.mem_cons.mp h with rfl | h
    · exact ⟨n, t, rfl⟩
    · exact ints_mem r v h
theorem three (S : Int) : ∃ M : Nat, 3 + S.fmod 3 = (M : Int) ∧ 3 ≤ M ∧ M ≤ 5 := by
  rw [Int.fmod_eq_emod_of_nonneg _ (by decide)]
  exact ⟨(3 + S % 3).toNat, by omega, by omega, by omega⟩
theorem five (S : Int) : ∃ W : Nat, 7 + S.fmod 5 = (W : Int) ∧ 7 ≤ W ∧ W ≤ 11 := by
  rw [Int.fmod_eq_emod_of_nonneg _ (by decide)]
  exact ⟨(7 + S % 5).toNat, by omega, by omega, by omega⟩
theorem fr_forget {g h : Heap} {L : Addr} {m : PySem.Str → Option Value} {a b : Value} (F : Fr g L h m) (ha : m (Str.ofString "words") = some a) (hb : m (Str.ofString "many") = some b) :
    ∃ m', Fr g L h m' ∧ m' (Str.ofString "words") = some a ∧ m' (Str.ofString "many") = some b := ⟨m, F, ha, hb⟩
theorem drop_two {h₀ h : Heap} {L : Addr} {a b : Addr × Obj} {nw : List (Addr × Obj)} (N : News h₀ L h (a :: b :: nw)) : News h₀ L h (a :: nw) := fun z hz => N z (by
  simp only [List.mem_cons] at hz ⊢
  rcases hz with h | h <;> simp [h])
theorem drop_five {h₀ h : Heap} {L : Addr} {a b c d e : Addr × Obj} {nw : List (Addr × Obj)} (N : News h₀ L h (a :: b :: c :: d :: e :: nw)) : News h₀ L h (b :: nw) := fun z hz => N z (by
  simp only [List.mem_cons] at hz ⊢
  rcases hz with h | h <;> simp [h])
theorem let_sum : ∀ ns : List Int, ((ns.map fun k => letter (bit k)).map (·.length)).sum + (ns.map fun k => letter (bit k)).length = 2 * ns.length
  | [] => rfl
  | n :: ns => by
    have := let_sum ns
    simp only [List.map_cons, List.sum_cons, List.length_cons] at *
    have e : (letter (bit n)).length = 1 := rfl
    omega
theorem join_bits (ns : List Int) : Txt.join (Str.ofString "") (ns.map fun k => letter (bit k)) = tx (ns.map bit) := by
  have h := join_letters (ns.map bit)
  rw [List.map_map] at h
  exact h
end Mine
end

section
open PySem PySem.W PySem.Calls PyProof.Rows
set_option maxRecDepth 100000
set_option maxHeartbeats 4000000
namespace Mine
/-- between two turns of the loop that makes the words -/
def WordJ (lW lT : Addr) (oW oT : Obj) (M : Nat) (i : Nat) (m : PySem.Str → Option Value) (nw : List (Addr × Obj)) : Prop :=
  ∃ Dw vs k tM, nw = [(Dw, PySem.W.listOf (List.toArray vs) k), (lW, oW), (lT, oT), (16, tabObj #[])] ∧ StrsAre vs ((wordsB i).map tx) ∧ m (Str.ofString "words") = some (.ref Dw) ∧ m (Str.ofString "many") = some (.int (M : Int) tM)
theorem words_loop {prog : Program} {w : World} {A : Around} {E : Value → Shared → Prop} {s : Shared} {env : Env} {h₀ : Heap} {body : List Stmt} {Q : Flow → Shared → Prop} {x : PySem.Str} {px : Pos} {M : Nat} {v : Int} {t t0 tM : Tok} {m₀ : PySem.Str → Option Value} {Dw lW lT : Addr} {oW oT : Obj}
    (hh : A.handled = none) (hv : v = (M : Int)) (hn : M ≤ 1000) (F : Fr h₀ env.locals s.heap m₀) (N : News h₀ env.locals s.heap [(Dw, PySem.W.listOf #[Value.str (Str.ofString "") t0] 0), (lW, oW), (lT, oT), (16, tabObj #[])])
    (hw : m₀ (Str.ofString "words") = some (.ref Dw)) (hm : m₀ (Str.ofString "many") = some (.int (M : Int) tM))
    (turn : ∀ I i t h tk m nw, (lW < I ∧ lT < I ∧ 16 < I) → i < M → WordJ lW lT oW oT M i m nw → Fr h₀ env.locals h m → AllObj [(I, "range_iterator")] (fun its => News h₀ env.locals h (its ++ nw) →
      wpAny (model prog w) A (assign (.Name x px) env (.int (i : Int) t)) (fun _ s₂ => wpAny (model prog w) A (execs body env) (UnrPostW h₀ env.locals { s with heap := h, toks := tk } its (fun m' n' => SubL [] n' ∧ WordJ lW lT oW oT M (i + 1) m' n') Q) E s₂) E { s with heap := h, toks := tk }))
    (done : ∀ h tk m nw, WordJ lW lT oW oT M M m nw → Fr h₀ env.locals h m → News h₀ env.locals h nw → Q .next { s with heap := h, toks := tk }) :
    wpAny (model prog w) A (call (.type "range") [.int v t]) (fun xv s₁ => wpAny (model prog w) A (pyIter xv) (fun it s₂ => TurnsAt prog w A h₀ env (.Name x px) body Q E it s₂) E s₁) E s :=
  rangeInv (WordJ lW lT oW oT M) hh hv hn F N ⟨Dw, [_], 0, tM, rfl, .cons _ _ .nil, hw, hm⟩ (fun I i t h tk m nw hI => turn I i t h tk m nw ⟨hI (lW, oW) (by simp), hI (lT, oT) (by simp), hI (16, tabObj #[]) (by simp)⟩) done
theorem words_end {h₀ h' : Heap} {L D I Dw lW lT : Addr} {m' : PySem.Str → Option Value} {oI ow oW oT : Obj} {ys : List Value} {nD M i : Nat} {s₁ : Shared} {tk : Nat} {tM : Tok} (F : Fr h₀ L h' m')
    (N : News h₀ L h' [(D, PySem.W.listOf (List.toArray ys) nD), (I, oI), (Dw, ow), (lW, oW), (lT, oT), (16, tabObj #[])]) (hc : oI.cls = .type "range_iterator") (hI : lW < I ∧ lT < I ∧ 16 < I) (hstr : StrsAre ys ((wordsB (i + 1)).map tx))
    (hw : m' (Str.ofString "words") = some (.ref D)) (hm : m' (Str.ofString "many") = some (.int (M : Int) tM)) :
    UnrEndW h₀ L s₁ [(I, oI)] (fun m' n' => SubL [] n' ∧ WordJ lW lT oW oT M (i + 1) m' n') { s₁ with heap := h', toks := tk } := by
  have hDI : D ≠ I := fun e => by
    have h1 := (N (D, _) (List.Mem.head _)).1
    have h2 := (N (I, oI) (List.Mem.tail _ (List.Mem.head _))).1
    rw [e] at h1
    rw [h1] at h2
    have := congrArg Obj.cls (Option.some.inj h2)
    rw [hc] at this
    injection this with this
    exact absurd this (by decide)
  refine ⟨h', tk, m', [(D, PySem.W.listOf (List.toArray ys) nD), (lW, oW), (lT, oT), (16, tabObj #[])], rfl, F, fun p hp => N p ?_, fun p hp q hq => ?_, trivial, D, ys, nD, tM, rfl, hstr, hw, hm⟩
  · simp only [List.mem_append, List.mem_cons, List.not_mem_nil, or_false] at hp ⊢
    rcases hp with h | h | h | h | h <;> simp [h]
  · rw [List.mem_singleton.mp hq]
    simp only [List.mem_cons, List.not_mem_nil, or_false] at hp
    obtain ⟨a, b, c⟩ := hI
    rcases hp with rfl | rfl | rfl | rfl
    · exact hDI
    · exact Nat.ne_of_lt a
    · exact Nat.ne_of_lt b
    · exact Nat.ne_of_lt c
theorem wordsB_len : ∀ n, (wordsB n).length = 2 ^ n
  | 0 => rfl
  | n + 1 => by rw [wordsB_front, List.length_append, List.length_map, List.length_map, wordsB_len n]; omega
theorem wordsB_mem : ∀ {n : Nat} {w : List Bool}, w ∈ wordsB n → w.length = n
  | 0, w, h => by cases List.mem_singleton.mp h; rfl
  | n + 1, w, h => by
    rw [wordsB_front, List.mem_append, List.mem_map, List.mem_map] at h
    rcases h with ⟨a, ha, rfl⟩ | ⟨a, ha, rfl⟩ <;> simp [wordsB_mem ha]
theorem strs_mem : ∀ {vs : List Value} {xs : List (List Bool)}, StrsAre vs (xs.map tx) → ∀ v ∈ vs, ∃ w t, w ∈ xs ∧ v = Value.str (tx w) t
  | _, [], .nil, v, h => by cases h
  | _, x :: xs, .cons _ t r, v, h => by
    rcases List.mem_cons.mp h with rfl | h
    · exact ⟨x, t, List.mem_cons_self .., rfl⟩
    · obtain ⟨w, t', hw, e⟩ := strs_mem r v h
      exact ⟨w, t', List.mem_cons_of_mem _ hw, e⟩
theorem ex_int {o : Option Value} {n : Int} {t : Tok} (h : o = some (Value.int n t)) : ∃ t', o = some (Value.int n t') := ⟨t, h⟩
theorem ex_cint {o : Data} {n : Int} {t : Tok} (h : o = Data.cell (some (Value.int n t))) : ∃ t', o = Data.cell (some (Value.int n t')) := ⟨t, h⟩
theorem ex_cstr {o : Data} {n : PySem.Str} {t : Tok} (h : o = Data.cell (some (Value.str n t))) : ∃ t', o = Data.cell (some (Value.str n t')) := ⟨t, h⟩
theorem two_ps {m : PySem.Str → Option Value} {a b : PySem.Str} {v w : Value} (ha : m a = some v) (hb : m b = some w) : ∀ p ∈ [(a, v), (b, w)], m p.1 = some p.2 := fun p hp => by
  simp only [List.mem_cons, List.not_mem_nil, or_false] at hp
  rcases hp with rfl | rfl
  · exact ha
  · exact hb
end Mine
end

section
open PySem PySem.W PySem.Calls PyProof.Rows
set_option maxRecDepth 100000
set_option maxHeartbeats 4000000
namespace Mine
def pLeft (bs : List Bool) : Value → Bool
  | .str x _ => leftB (tx bs) x
  | _ => false
theorem told_strs {bs : List Bool} : ∀ {vs ys : List Value} {ws : List (List Bool)}, StrsAre vs (ws.map tx) → Paired (fun v y => y = v) (vs.filter (pLeft bs)) ys → StrsAre ys ((ws.filter fun w => leftB (tx bs) (tx w)).map tx)
  | _, _, [], .nil, h => by cases h; exact .nil
  | _, ys, w :: ws, .cons _ t r, h => by
    by_cases hp : leftB (tx bs) (tx w) = true
    · rw [List.filter_cons_of_pos (show pLeft bs (.str (tx w) t) = true from hp)] at h
      cases h with
      | cons e q =>
        subst e
        rw [List.filter_cons_of_pos (by simpa using hp)]
        exact .cons _ _ (told_strs r q)
    · rw [List.filter_cons_of_neg (show ¬ pLeft bs (.str (tx w) t) = true from hp)] at h
      rw [List.filter_cons_of_neg (by simpa using hp)]
      exact told_strs r h
end Mine
end

section
open PySem PySem.W PySem.Calls PyProof.Rows
set_option maxRecDepth 100000
set_option maxHeartbeats 4000000
namespace Mine
theorem str_len (a b : PySem.Str) : (a ++ b).length = a.length + b.length := by
  show (⟨a.cps ++ b.cps⟩ : PySem.Str).length = _
  simp [PySem.Str.length]
def DotF (v y : Value) : Prop := ∃ c u u', v = Value.str (letter c) u ∧ y = Value.str (letter c ++ Str.ofString "...") u'
theorem dot_strs : ∀ {wd : List Bool} {vs ys : List Value}, vs.length = wd.length → (∀ (j : Nat) v, vs[j]? = some v → ∃ c u, wd[j]? = some c ∧ v = .str (letter c) u) → Paired DotF vs ys → StrsAre ys (wd.map fun c => letter c ++ Str.ofString "...")
  | [], [], _, _, _, .nil => .nil
  | c :: wd, v :: vs, _, hl, hv, .cons ⟨c1, u1, u2, e1, e2⟩ r => by
    obtain ⟨c2, u3, h1, h2⟩ := hv 0 v rfl
    cases h1
    rw [e1] at h2
    injection h2 with h2 _
    have hc : c1 = c := by
      have := congrArg (fun s : PySem.Str => s.cps.toList) h2
      simp only [letter, List.cons.injEq, and_true] at this
      cases c1 <;> cases c <;> first | rfl | cases this
    subst hc e2
    exact .cons _ _ (dot_strs (by simpa using hl) (fun j v h => hv (j + 1) v h) r)
theorem dots_len (wd : List Bool) : ((wd.map fun c => letter c ++ Str.ofString "...").map (·.length)).sum + (wd.map fun c => letter c ++ Str.ofString "...").length = 5 * wd.length := by
  induction wd with
  | nil => rfl
  | cons c wd ih =>
    simp only [List.map_cons, List.sum_cons, List.length_cons] at *
    have e : (letter c ++ Str.ofString "...").length = 4 := by cases c <;> rfl
    omega
end Mine
end

section
open PySem PySem.W PySem.Calls PyProof.Rows
set_option maxRecDepth 100000
set_option maxHeartbeats 4000000
namespace Mine
theorem XI_ok {bs : List Bool} {W : Nat} (hb : bs.length = 7) (h7 : 7 ≤ W) (h11 : W ≤ 11) : 2 ^ (7 * W) ≤ XI bs W ∧ XI bs W < 2 ^ (8 * W) ∧ digs W 8 (XI bs W).toNat = DI bs := by
  have hm := mem_allB hb
  have : W = 7 ∨ W = 8 ∨ W = 9 ∨ W = 10 ∨ W = 11 := by omega
  rcases this with rfl | rfl | rfl | rfl | rfl
  · exact ⟨(tab7 bs hm).1, (tab7 bs hm).2.1, rfl⟩
  · exact ⟨(tab8 bs hm).2.1, (tab8 bs hm).2.2, (tab8 bs hm).1⟩
  · exact ⟨(tab9 bs hm).2.1, (tab9 bs hm).2.2, (tab9 bs hm).1⟩
  · exact ⟨(tab10 bs hm).2.1, (tab10 bs hm).2.2, (tab10 bs hm).1⟩
  · exact ⟨(tab11 bs hm).2.1, (tab11 bs hm).2.2, (tab11 bs hm).1⟩
theorem ne_of_obj {h₀ h : Heap} {L a b : Addr} {o1 o2 : Obj} {nw : List (Addr × Obj)} (N : News h₀ L h nw) (h1 : (a, o1) ∈ nw) (h2 : (b, o2) ∈ nw) (hne : o1.cls ≠ o2.cls) : a ≠ b := fun e => by
  have e1 := (N _ h1).1
  have e2 := (N _ h2).1
  dsimp only at e1 e2
  rw [e, e2] at e1
  exact hne (congrArg Obj.cls (Option.some.inj e1).symm)
theorem perm_counts {h₀ h : Heap} {L : Addr} {a b c d e f : Addr × Obj} (N : News h₀ L h [a, b, c, d, e, f]) : News h₀ L h [f, a, b, d, e] := fun z hz => N z (by
  simp only [List.mem_cons, List.not_mem_nil, or_false] at hz ⊢
  rcases hz with rfl | rfl | rfl | rfl | rfl <;> simp)
theorem off16 {h₀ h : Heap} {L D Dt lW lT : Addr} {y1 y2 : List Value} {n1 n2 : Nat} {oW oT : Obj} (N : News h₀ L h [(16, tabObj #[]), (D, PySem.W.listOf (List.toArray y1) n1), (Dt, PySem.W.listOf (List.toArray y2) n2), (lW, oW), (lT, oT)]) (hW : @LT.lt Nat _ 16 lW) (hT : @LT.lt Nat _ 16 lT) :
    ∀ p ∈ [(D, PySem.W.listOf (List.toArray y1) n1), (Dt, PySem.W.listOf (List.toArray y2) n2), (lW, oW), (lT, oT)], p.1 ≠ (16 : Addr) := fun p hp => by
  simp only [List.mem_cons, List.not_mem_nil, or_false] at hp
  rcases hp with rfl | rfl | rfl | rfl
  · exact ne_of_obj N (List.Mem.tail _ (List.Mem.head _)) (List.Mem.head _) (by intro h; cases h)
  · exact ne_of_obj N (List.Mem.tail _ (List.Mem.tail _ (List.Mem.head _))) (List.Mem.head _) (by intro h; cases h)
  · exact Nat.ne_of_gt hW
  · exact Nat.ne_of_gt hT
theorem nat_le {k : Nat} {x : Int} (h : (2 : Int) ^ k ≤ x) : 2 ^ k ≤ x.toNat := by
  have e : ((2 ^ k : Nat) : Int) = (2 : Int) ^ k := by rw [Int.natCast_pow]; rfl
  omega
theorem nat_lt {k : Nat} {x : Int} (h : x < (2 : Int) ^ k) : x.toNat < 2 ^ k := by
  have e : ((2 ^ k : Nat) : Int) = (2 : Int) ^ k := by rw [Int.natCast_pow]; rfl
  have : 0 < (2 : Nat) ^ k := Nat.pow_pos (by decide)
  omega
theorem XI_nonneg {bs : List Bool} {W k : Nat} (h : (2 : Int) ^ k ≤ XI bs W) : 0 ≤ XI bs W :=
  Int.le_trans (Int.le_of_lt (Int.pow_pos (by decide))) h
theorem XI_nat {bs : List Bool} {W : Nat} (h : 0 ≤ XI bs W) : (numsL (tx bs) (2 ^ ((W : Nat) : Int).toNat) 7).getD (7 : Int).toNat 0 = ((XI bs W).toNat : Int) := by
  rw [Int.toNat_of_nonneg h, Int.toNat_natCast]
  have e : (7 : Int).toNat = 7 := rfl
  rw [e]
  unfold XI
  rfl
theorem counts_law {bs : List Bool} {W : Nat} (hb : bs.length = 7) (h7 : 7 ≤ W) (h11 : W ≤ 11) :
    ∃ X : Nat, (numsL (tx bs) (2 ^ ((W : Nat) : Int).toNat) 7).getD (7 : Int).toNat 0 = (X : Int) ∧ 2 ^ (7 * W) ≤ X ∧ X < 2 ^ (8 * W) ∧ digs W 8 X = DI bs := by
  obtain ⟨x1, x2, x3⟩ := XI_ok hb h7 h11
  exact ⟨(XI bs W).toNat, XI_nat (XI_nonneg x1), nat_le x1, nat_lt x2, x3⟩
theorem tx_size (bs : List Bool) : (tx bs).cps.size = bs.length := by simp [tx]
theorem tx_ab {bs : List Bool} (i c : Nat) (h : (tx bs).cps[i]? = some c) : c = 97 ∨ c = 98 := by
  have e : (bs.map code)[i]? = some c := by simpa [tx] using h
  rw [List.getElem?_map] at e
  cases hb : bs[i]? with
  | none => rw [hb] at e; cases e
  | some b => rw [hb] at e; cases b <;> cases e <;> simp [code]
theorem slice_one {vs : List Value} {ns : List Int} {M : Nat} (h : IntsAre vs ns) (h8 : ns.length = 8) (h3 : 3 ≤ M) (h5 : M ≤ 5) : IntsAre (slicePick vs.toArray (some (M : Int)) (some ((M : Int) + 1)) none).toList [ns.getD M 0] := by
  have := slice_ints h (x := (M : Int)) (y := (M : Int) + 1) (by omega) (by omega) (by omega)
  have e : (List.drop ((M : Int).toNat) ns).take (((M : Int) + 1 - (M : Int)).toNat) = [ns.getD M 0] := by
    rw [Int.toNat_natCast, show ((M : Int) + 1 - (M : Int)).toNat = 1 by omega]
    rw [List.drop_eq_getElem_cons (show M < ns.length by omega), List.take_succ_cons, List.take_zero, List.getD_eq_getElem?_getD, List.getElem?_eq_getElem (show M < ns.length by omega)]
    rfl
  rw [e] at this
  exact this
end Mine
end

section
open PySem PySem.W PySem.Calls PyProof.Rows
set_option maxRecDepth 100000
set_option maxHeartbeats 4000000
namespace Mine
def keptW (bs : List Bool) (M : Nat) : List (List Bool) := List.filter (fun w => leftB (tx bs) (tx w)) (wordsB M)
theorem kept_len {bs : List Bool} {M : Nat} (hb : bs.length = 7) (h5 : M ≤ 5) : (List.map (fun (d : Nat) => (d : Int)) (DI bs)).getD M 0 = (((keptW bs M).length : Nat) : Int) ∧ (keptW bs M).length ≤ 32 ∧ ∀ w ∈ keptW bs M, w.length ≤ 5 := by
  have e1 : keptW bs M = (wordsB M).filter (leftI bs 0) := by
    unfold keptW
    congr 1
    funext w
    exact leftB_leftI hb
  refine ⟨?_, ?_, ?_⟩
  · rw [(tab7 bs (mem_allB hb)).2.2, e1, cnt_eq]
    simp [List.getD, show M < 8 by omega]
  · refine Nat.le_trans (List.length_filter_le _ _) ?_
    rw [wordsB_len]
    exact Nat.le_trans (Nat.pow_le_pow_right (by decide) h5) (by decide)
  · intro w hw
    rw [wordsB_mem (List.mem_filter.mp hw).1]
    exact h5
section
variable {prog : Program} {w : World} {A : Around} {E : Value → Shared → Prop} {s : Shared} {h₀ : Heap} {L : Addr} {m : PySem.Str → Option Value}
theorem str_first {a D DS : Addr} {p1 p2 p3 : Addr × Obj} {ys wS : List Value} {n1 n2 n3 : Nat} {rest : List (Addr × Obj)} {l : List (List Bool)} {c : Nat} {ci : Int} {Q : Value → Shared → Prop} (F : Fr h₀ L s.heap m)
    (N : News h₀ L s.heap ((a, PySem.W.listOf #[.ref D, .ref DS] n1) :: (DS, PySem.W.listOf (List.toArray wS) n3) :: p1 :: p2 :: p3 :: (D, PySem.W.listOf (List.toArray ys) n2) :: rest))
    (h1 : StrsAre ys (l.map tx)) (h2 : IntsAre wS [ci]) (hci : ci = (c : Int)) (hl : l.length ≤ 32) (hw : ∀ w ∈ l, w.length ≤ 5) (hc : c < 64) (hg : A.guards = some []) (hu : A.units + 20 < cLine)
    (hQ : ∀ h' u tk, Fr h₀ L h' m → News h₀ L h' (p1 :: p2 :: p3 :: (D, PySem.W.listOf (List.toArray ys) n2) :: rest) → Q (.str (dT l (c : Int)).shown u) { s with heap := h', toks := tk }) :
    wpAny (model prog w) A (call (.type "str") [.ref a]) Q E s := by
  subst hci
  obtain ⟨as, hr⟩ := reads_dT (N _ (List.Mem.head _)).1 (N _ (List.Mem.tail _ (List.Mem.tail _ (List.Mem.tail _ (List.Mem.tail _ (List.Mem.tail _ (List.Mem.head _))))))).1 (N _ (List.Mem.tail _ (List.Mem.head _))).1 h1 h2
  refine str_dT hr hl hw hc hg hu fun h' u tk hk => hQ h' u tk (F.keeps hk) fun p hp => N.grown hk p (List.Mem.tail _ (List.Mem.tail _ hp))
theorem str_second {a Dt Dl : Addr} {p1 p2 p3 p4 : Addr × Obj} {ys : List Value} {t : Tok} {n1 n2 n3 : Nat} {rest : List (Addr × Obj)} {l : List (List Bool)} {c : Nat} {Q : Value → Shared → Prop} (F : Fr h₀ L s.heap m)
    (N : News h₀ L s.heap ((a, PySem.W.listOf #[.ref Dt, .ref Dl] n1) :: (Dl, PySem.W.listOf #[.int ((c : Nat) : Int) t] n3) :: p1 :: p2 :: p3 :: p4 :: (Dt, PySem.W.listOf (List.toArray ys) n2) :: rest))
    (h1 : StrsAre ys (l.map tx)) (hl : l.length ≤ 32) (hw : ∀ w ∈ l, w.length ≤ 5) (hc : c < 64) (hg : A.guards = some []) (hu : A.units + 20 < cLine)
    (hQ : ∀ h' u tk, Fr h₀ L h' m → News h₀ L h' (p1 :: p2 :: p3 :: rest) → Q (.str (dT l (c : Int)).shown u) { s with heap := h', toks := tk }) :
    wpAny (model prog w) A (call (.type "str") [.ref a]) Q E s := by
  obtain ⟨as, hr⟩ := reads_dT (wS := [.int ((c : Nat) : Int) t]) (N _ (List.Mem.head _)).1 (N _ (List.Mem.tail _ (List.Mem.tail _ (List.Mem.tail _ (List.Mem.tail _ (List.Mem.tail _ (List.Mem.tail _ (List.Mem.head _)))))))).1 (N _ (List.Mem.tail _ (List.Mem.head _))).1 h1 (.cons _ _ .nil)
  refine str_dT hr hl hw hc hg hu fun h' u tk hk => hQ h' u tk (F.keeps hk) fun p hp => N.grown hk p ?_
  simp only [List.mem_cons] at hp ⊢
  rcases hp with h | h | h | h <;> simp [h]
theorem ne_same {x : PySem.Str} {t u : Tok} {Q : Value → Shared → Prop} (h : Q (.bool false) s) : wpAny (model prog w) A (compareOp .NotEq (.str x t) (.str x u)) Q E s := by
  refine PyProof.Rows.ne_str ?_
  have e : (x != x) = false := by simp
  rw [e]
  exact h
theorem len_told {l : Addr} {ys : List Value} {lw : List (List Bool)} {Q : Value → Shared → Prop} (hl : s.heap.IsList l ys.toArray) (h : StrsAre ys (lw.map tx)) (h32 : lw.length ≤ 32) (hq : ∀ t k, Q (.int ((lw.length : Nat) : Int) t) { s with toks := k }) : wpAny (model prog w) A (call (.builtin "len") [.ref l]) Q E s := by
  have e : ys.toArray.size = lw.length := by rw [List.size_toArray, StrsAre.length h, List.length_map]
  refine call_len_list hl (by rw [e]; omega) ?_
  rw [e]
  exact hq _ _
end
end Mine
end

section
open PySem PySem.W PySem.Calls PyProof.Rows
set_option maxRecDepth 100000
set_option maxHeartbeats 4000000
namespace Mine
def MostF (i : Nat) (y : Value) : Prop := ∃ u, y = Value.int ((mostC.getD i 0 : Nat) : Int) u
theorem base_abs {W : Nat} (h : W ≤ 11) : ((2 : Int) ^ ((W : Nat) : Int).toNat + 1).natAbs < 2 ^ 64 := by
  rw [Int.toNat_natCast]
  have e : (2 : Int) ^ W + 1 = ((2 ^ W + 1 : Nat) : Int) := by rw [Int.natCast_add, Int.natCast_pow]; rfl
  rw [e, Int.natAbs_natCast]
  have : (2 : Nat) ^ W ≤ 2 ^ 11 := Nat.pow_le_pow_right (by decide) h
  omega
theorem pow_cast (W i : Nat) : ((2 : Int) ^ ((W : Nat) : Int).toNat + 1) ^ ((i : Nat) : Int).toNat = (((2 ^ W + 1) ^ i : Nat) : Int) := by
  rw [Int.toNat_natCast, Int.toNat_natCast, Int.natCast_pow, Int.natCast_add, Int.natCast_pow]
  rfl
theorem pow_inB {W i : Nat} (h7 : 7 ≤ W) (h11 : W ≤ 11) (hi : i < 8) : InB ((2 ^ W + 1) ^ i) := by
  have hW : W ∈ [7, 8, 9, 10, 11] := by
    have : W = 7 ∨ W = 8 ∨ W = 9 ∨ W = 10 ∨ W = 11 := by omega
    rcases this with rfl | rfl | rfl | rfl | rfl <;> simp
  obtain ⟨h1, h2⟩ := pow_tab W hW i (List.mem_range.mpr hi)
  refine ⟨Nat.lt_of_lt_of_le h2 (Nat.pow_le_pow_right (by decide) ?_)⟩
  have : W * i ≤ 11 * 7 := Nat.mul_le_mul h11 (by omega)
  omega
theorem perm_hit {h₀ h : Heap} {L : Addr} {a b c d e f : Addr × Obj} (N : News h₀ L h [a, b, c, d, e, f]) : News h₀ L h [c, d, e, f] := fun z hz => N z (by
  simp only [List.mem_cons, List.not_mem_nil, or_false] at hz ⊢
  rcases hz with rfl | rfl | rfl | rfl <;> simp)
theorem news_keep {h₀ h h' : Heap} {L : Addr} {a : Addr × Obj} {nw nw' : List (Addr × Obj)} (N : News h₀ L h (a :: nw)) (hk : ∀ b o, h.get? b = some o → h'.get? b = some o) (N' : News h₀ L h' nw') : News h₀ L h' (a :: nw') := fun z hz => by
  rcases List.mem_cons.mp hz with rfl | hz
  · have q := N _ (List.Mem.head _)
    exact ⟨hk _ _ q.1, q.2⟩
  · exact N' z hz
theorem digs_map_len {vs : List Value} {W n X : Nat} (_h : IntsAre vs ((digs W n X).map fun (d : Nat) => (d : Int))) : ((digs W n X).map fun (d : Nat) => (d : Int)).length = n := by rw [List.length_map]; exact digs_length _ _ _
section
variable {prog : Program} {w : World} {A : Around} {E : Value → Shared → Prop} {s : Shared} {h₀ : Heap} {L : Addr} {m : PySem.Str → Option Value} {news : List (Addr × Obj)}
theorem sum_ext {vs : List Value} {ns : List Int} {l : Addr} {Q : Value → Shared → Prop} (hh : A.handled = none) (hl : s.heap.IsList l vs.toArray) (hi : IntsAre vs ns)
    (h : ∀ h' tk t', (∀ b o, s.heap.get? b = some o → h'.get? b = some o) → Q (.int ns.sum t') { s with heap := h', toks := tk }) : wpAny (model prog w) A (call (.builtin "sum") [.ref l]) Q E s := by
  obtain ⟨xs, hx⟩ := hi.allInts.items
  have hl' : s.heap.IsList l (intItems xs) := hx ▸ hl
  refine sum_intListG hh hl' fun h' tk t' hk => ?_
  have e1 : ns = xs.toList.map (·.1) := by
    rw [← nums_intItems, ← hx]
    exact (show numsOf vs.toArray.toList = ns from hi.numsOf).symm
  have e2 : preSum (numAt xs) xs.size = ns.sum := by
    rw [preSum_eq, List.take_of_length_le (by simp), e1]
  rw [e2]
  exact h h' tk t' hk
theorem sub_opsG {value slice : Expr} {o i : Value} {T id : String} {ops : List Value} {Q : Value → Shared → Prop} (hT : s.TypeIs o T)
    (hl : typeLookup (.type T) "__getitem__" = pure (some (.builtin id))) (h : wpAny (model prog w) A (getItem o i) Q E s)
    (hs : subscripted slice false o i = operate ops (getItem o i)) :
    wpAny (model prog w) A (subscriptTail value slice o i) Q E s := by
  unfold subscriptTail
  refine wpAny_bind ?_
  rw [getitemInPython_of_ne hT.not_modules]
  refine wpAny_bind (wpAny_specialOf hT hl ?_)
  have fin : wpAny (model prog w) A (subscripted slice false o i) (fun r s₃ => wpAny (model prog w) A (letTemporaryGo value o r >>= fun _ => pure r) Q E s₃) E s := by
    rw [hs]
    exact wpAny_operating (wpAny_mono h (fun r s₃ h₃ => wpAny_bind (wpAny_letTemporaryGo (wpAny_pure h₃))) fun _ _ x => x)
  first
    | exact wpAny_pure (wpAny_bind fin)
    | exact wpAny_bind (wpAny_pure (wpAny_bind fin))
    | exact wpAny_bind fin
theorem slice_ext {value slice : Expr} {l : Addr} {items : Array Value} {vl vu : Value} {lo hi : Option Int} {Q : Value → Shared → Prop}
    (F : Fr h₀ L s.heap m) (N : News h₀ L s.heap news) (hl : s.heap.IsList l items) (pl : IsPart vl lo) (pu : IsPart vu hi)
    (h : ∀ D h', Fr h₀ L h' m → News h₀ L h' ((D, PySem.W.listOf (List.toArray (slicePick items lo hi none).toList) 0) :: news) → (∀ b o, s.heap.get? b = some o → h'.get? b = some o) → Q (.ref D) { s with heap := h' })
    (hs : subscripted slice false (.ref l) (.ref s.heap.objs.size) = operate [.ref s.heap.objs.size, .ref l] (getItem (.ref l) (.ref s.heap.objs.size)))
    (hsz : items.size ≤ sizeLine) :
    wpAny (model prog w) A (subscriptTail value slice (.ref l) (.ref s.heap.objs.size)) Q E { s with heap := s.heap.push { cls := .type "slice", data := .fields #[vl, vu, .none] } } := by
  refine sub_opsG (Heap.IsList.typeIs (s := { s with heap := s.heap.push { cls := .type "slice", data := .fields #[vl, vu, .none] } }) (hl.push _)) list_getitem_lookup
    (wpAny_getItem_list_slice (hl.push _) (Heap.IsSliceOf.new ..) pl pu .none (by simp) ?_ hsz) hs
  have N1 := News.push (F.push { cls := .type "slice", data := .fields #[vl, vu, .none] }) (N.grown fun _ _ e => Heap.get?_push_of_some _ e) { cls := .type "list", data := .seq (slicePick items lo hi none) }
  refine h _ _ ((F.push _).push _) ?_ fun b o e => Heap.get?_push_of_some _ (Heap.get?_push_of_some _ e)
  rw [Array.toArray_toList]
  exact N1
theorem noneL_push {g h h' : Heap} {L c : Addr} {m m' : PySem.Str → Option Value} {o o' : Obj} {nw : List (Addr × Obj)} (F : Fr g L h m) (N : News g L h nw) (hn : h'.Ns L m') (hk : ∀ b q, b ≠ L → (h.push o').get? b = some q → h'.get? b = some q) (hc : (h.push o').get? c = none) (e : h'.get? c = some o) : Fr g L h' m' ∧ News g L h' ((c, o) :: nw) :=
  news_noneL (F.push _) (N.grown fun _ _ e => Heap.get?_push_of_some _ e) hn hk hc e
end
theorem map_DI_len {vs : List Value} {bs : List Bool} (h : IntsAre vs ((DI bs).map fun (d : Nat) => (d : Int))) : vs.length = 8 := by
  rw [h.length, List.length_map]
  exact digs_length _ _ _
theorem sum_cast : ∀ l : List Nat, (l.map fun (d : Nat) => (d : Int)).sum = ((l.sum : Nat) : Int)
  | [] => rfl
  | a :: l => by rw [List.map_cons, List.sum_cons, List.sum_cons, sum_cast l, Int.natCast_add]
theorem most_sum {W i : Nat} (h7 : 7 ≤ W) (h11 : W ≤ 11) (hi : i < 8) : (List.take (8 - (i : Int)).toNat (List.map (fun (d : Nat) => (d : Int)) (digs W (i + 1) ((2 ^ W + 1) ^ i)))).sum = ((mostC.getD i 0 : Nat) : Int) := by
  rw [show (8 - (i : Int)).toNat = 8 - i by omega, ← List.map_take, sum_cast, most_at h7 h11 hi]
theorem most_pair : ∀ {vs ys : List Value} (k : Nat), Paired (fun v y => ∃ (i : Nat) (t : Tok), v = Value.int (i : Int) t ∧ MostF i y) vs ys → (∀ (j : Nat) v, vs[j]? = some v → ∃ t, v = Value.int ((k + j : Nat) : Int) t) → IntsAre ys ((List.range' k vs.length).map fun i => ((mostC.getD i 0 : Nat) : Int))
  | _, _, k, .nil, _ => .nil
  | v :: vs, _, k, .cons ⟨i, t, e, u, e2⟩ r, h => by
    obtain ⟨t', e'⟩ := h 0 v rfl
    rw [e] at e'
    injection e' with e' _
    have : i = k := by omega
    subst this e2
    rw [List.length_cons, List.range'_succ, List.map_cons]
    refine .cons _ _ (most_pair (i + 1) r fun j v hj => ?_)
    obtain ⟨t, q⟩ := h (j + 1) v hj
    exact ⟨t, by rw [q]; congr 1; omega⟩
theorem most_ints {ys : List Value} (h : ∃ vs : List Value, vs.length = 8 ∧ Paired (fun v y => ∃ (i : Nat) (t : Tok), v = Value.int (i : Int) t ∧ MostF i y) vs ys ∧ ∀ (j : Nat) v, vs[j]? = some v → ∃ t, v = Value.int (j : Int) t) : IntsAre ys (mostC.map fun (d : Nat) => (d : Int)) := by
  obtain ⟨vs, h1, h2, h3⟩ := h
  have := most_pair 0 h2 fun j v hj => by obtain ⟨t, q⟩ := h3 j v hj; exact ⟨t, by rw [q]; congr 1; omega⟩
  rw [h1] at this
  exact this
end Mine
end

section
open PySem PySem.W PySem.Calls PyProof.Rows
set_option maxRecDepth 100000
set_option maxHeartbeats 4000000
namespace Mine
def gtB (cs ms : List Int) (j : Nat) : Bool := decide (ms.getD j 0 < cs.getD j 0)
theorem ints_at : ∀ {vs : List Value} {ns : List Int} {i : Nat} {v : Value}, IntsAre vs ns → vs[i]? = some v → ∃ t, v = Value.int (ns.getD i 0) t
  | _, _, 0, v, .cons n t _, h => by cases h; exact ⟨t, rfl⟩
  | _, _, i + 1, v, .cons n t r, h => by
    obtain ⟨t', e⟩ := ints_at (i := i) r (by simpa using h)
    exact ⟨t', by rw [e]; rfl⟩
theorem bools_are : ∀ (l : List Nat) (f : Nat → Bool), LSm.BoolsAre (l.map fun j => Value.bool (f j)) (l.map f)
  | [], _ => .nil
  | a :: l, f => .cons _ (bools_are l f)
theorem most_le {bs : List Bool} (hb : bs.length = 7) : ((List.range 8).map (gtB ((DI bs).map fun (d : Nat) => (d : Int)) (mostC.map fun (d : Nat) => (d : Int)))).any id = false := by
  have h1 := (tab7 bs (mem_allB hb)).2.2
  have h2 := (tabC bs (mem_allB hb)).1
  rw [← h1] at h2
  have hl : (DI bs).length = 8 := digs_length _ _ _
  rw [List.any_eq_false]
  intro b hmem
  obtain ⟨j, hj, rfl⟩ := List.mem_map.mp hmem
  have hj8 := List.mem_range.mp hj
  have h3 := List.all_eq_true.mp h2 ((DI bs)[j]'(by omega), mostC[j]'(by show j < 8; omega)) (by
    rw [List.mem_iff_getElem]
    exact ⟨j, by rw [List.length_zip, hl]; show j < min 8 8; omega, by simp⟩)
  simp only [decide_eq_true_eq] at h3
  simp only [id, gtB, decide_eq_true_eq, Int.not_lt]
  have e1 : ((DI bs).map fun (d : Nat) => (d : Int)).getD j 0 = (((DI bs)[j]'(by omega) : Nat) : Int) := by simp [List.getD, List.getElem?_eq_getElem (show j < (DI bs).length by omega)]
  have e2 : (mostC.map fun (d : Nat) => (d : Int)).getD j 0 = ((mostC[j]'(by show j < 8; omega) : Nat) : Int) := by simp [List.getD, List.getElem?_eq_getElem (show j < mostC.length by show j < 8; omega)]
  rw [e1, e2]
  omega
section
variable {prog : Program} {w : World} {A : Around} {E : Value → Shared → Prop} {s : Shared} {h₀ : Heap} {L : Addr} {m : PySem.Str → Option Value}
theorem zip_iter {l1 l2 : Addr} {v1 v2 : List Value} {n : Nat} {Post : Value → Shared → Prop} (hh : A.handled = none) (hl1 : s.heap.IsList l1 v1.toArray) (hl2 : s.heap.IsList l2 v2.toArray) (e1 : v1.length = n) (e2 : v2.length = n)
    (h : ∀ I fp wr St Mid h', WalksT prog w A I fp wr n (fun i vals => ∃ x y, v1.toArray[i]? = some x ∧ v2.toArray[i]? = some y ∧ vals = #[x, y]) St Mid → St 0 h' → (∀ b ∈ fp, b < h'.objs.size) → (∀ b ∈ wr, s.heap.get? b = none) →
      (∀ b o, s.heap.get? b = some o → h'.get? b = some o) → @LE.le Nat _ s.heap.objs.size h'.objs.size → Post (.ref I) { s with heap := h' }) :
    wpAny (model prog w) A (call (.type "zip") [.ref l1, .ref l2]) Post E s := by
  have hlt1 : @LT.lt Nat _ l1 s.heap.objs.size := by obtain ⟨_, e, _⟩ := hl1; exact Heap.lt_size e
  have hlt2 : @LT.lt Nat _ l2 s.heap.objs.size := by obtain ⟨_, e, _⟩ := hl2; exact Heap.lt_size e
  have D : ZipApart (s.heap.objs.size + 4) (s.heap.objs.size + 2) (s.heap.objs.size + 3) s.heap.objs.size (s.heap.objs.size + 1) l1 l2 := ktu_apart _ _ _ hlt1 hlt2
  refine call_zip_2 hl1 hl2 fun h' hz hTI hTO hi1 hi2 hsz hk => ?_
  have W := WalksT.zip2 (prog := prog) (w := w) (A := A) hh _ _ _ _ _ _ _ D v1.toArray v2.toArray
  have hn : min v1.toArray.size v2.toArray.size = n := by rw [List.size_toArray, List.size_toArray, e1, e2, Nat.min_self]
  rw [hn] at W
  have hsz' : @Eq Nat h'.objs.size (s.heap.objs.size + 5) := hsz
  refine h _ _ _ _ _ h' W ⟨hz, hTI, ⟨_, _, hTO⟩, hi1, hi2, hl1.at fun o e => hk _ o e, hl2.at fun o e => hk _ o e⟩ (fun b hb => ?_) (fun b hb => ?_) hk (by rw [hsz']; exact Nat.le_add_right _ _)
  · show @LT.lt Nat _ b h'.objs.size
    rw [hsz']
    simp only [List.mem_cons, List.not_mem_nil, or_false] at hb
    rcases hb with rfl | rfl | rfl | rfl | rfl | rfl | rfl <;> omega
  · simp only [List.mem_cons, List.not_mem_nil, or_false] at hb
    have ge : @LE.le Nat _ s.heap.objs.size b := by rcases hb with rfl | rfl | rfl | rfl <;> omega
    cases q : s.heap.get? b with
    | none => rfl
    | some o => exact absurd (Heap.lt_size q) (Nat.not_lt.mpr ge)
theorem len_eight {l : Addr} {vs : List Value} {Q : Value → Shared → Prop} (hl : s.heap.IsList l vs.toArray) (h : vs.length = 8) (hq : ∀ t k, Q (.int 8 t) { s with toks := k }) : wpAny (model prog w) A (call (.builtin "len") [.ref l]) Q E s := by
  have e : vs.toArray.size = 8 := by rw [List.size_toArray, h]
  refine call_len_list hl (by rw [e]; decide) ?_
  rw [e]
  exact hq _ _
end
end Mine
end

section
open PySem PySem.W PySem.Calls PyProof.Rows
set_option maxRecDepth 100000
set_option maxHeartbeats 4000000
namespace Mine
theorem notin_tx {prog : Program} {w : World} {A : Around} {E : Value → Shared → Prop} {s : Shared} {bs : List Bool} {x : PySem.Str} {t u : Tok} {Q : Value → Shared → Prop} (hb : bs.length = 7) (c : Bool) (hx : x = tx [c, c]) (h : Q (.bool (!dbl c bs)) s) : wpAny (model prog w) A (compareOp .NotIn (.str x u) (.str (tx bs) t)) Q E s := by
  subst hx
  refine notIn_str ?_
  rw [aa_in hb c]
  simpa using h
theorem notin_t {prog : Program} {w : World} {A : Around} {E : Value → Shared → Prop} {s : Shared} {bs : List Bool} {x : PySem.Str} {t u : Tok} {Q : Value → Shared → Prop} (hb : bs.length = 7) (c : Bool) (hx : x = tx [c, c]) (hv : dbl c bs = true) (h : Q (.bool false) s) : wpAny (model prog w) A (compareOp .NotIn (.str x u) (.str (tx bs) t)) Q E s :=
  notin_tx hb c hx (by rw [hv]; exact h)
theorem notin_f {prog : Program} {w : World} {A : Around} {E : Value → Shared → Prop} {s : Shared} {bs : List Bool} {x : PySem.Str} {t u : Tok} {Q : Value → Shared → Prop} (hb : bs.length = 7) (c : Bool) (hx : x = tx [c, c]) (hv : dbl c bs = false) (h : Q (.bool true) s) : wpAny (model prog w) A (compareOp .NotIn (.str x u) (.str (tx bs) t)) Q E s :=
  notin_tx hb c hx (by rw [hv]; exact h)
end Mine
end

section
open PySem PySem.W PySem.Calls PyProof.Rows
open Mine
local macro_rules | `(tactic| walk_at "eval ListComp") => `(tactic| k_extra "my eval ListComp")
local macro_rules | `(tactic| walk_at "call builtin:len") => `(tactic| k_extra "my call builtin:len")
local macro_rules | `(tactic| walk_at "subscriptTail List Slice ref ref") => `(tactic| k_extra "my subscriptTail List Slice ref ref")
local macro_rules | `(tactic| walk_at "last subscriptTail") => `(tactic| k_extra "my last subscriptTail")
local macro_rules | `(tactic| walk_at "exec Assign cons ListComp") => `(tactic| k_extra "my exec Assign cons ListComp")
local macro_rules | `(tactic| walk_at "binaryOp Add str str") => `(tactic| k_extra "my binaryOp Add str str")
local macro_rules | `(tactic| walk_at "UnrEndW") => `(tactic| k_extra "my UnrEndW")
local macro_rules | `(tactic| walk_at "subscriptTail Name Slice ref ref") => `(tactic| k_extra "my subscriptTail Name Slice ref ref")
local macro_rules | `(tactic| walk_at "compareOp NotEq str str") => `(tactic| k_extra "my compareOp NotEq str str")
local macro_rules | `(tactic| walk_at "call type:range") => `(tactic| k_extra "my call type:range")
local macro_rules | `(tactic| walk_at "call builtin:sum") => `(tactic| k_extra "my call builtin:sum")
local macro_rules | `(tactic| walk_at "subscriptTail") => `(tactic| k_extra "my subscriptTail")
local macro_rules | `(tactic| walk_at "call type:zip") => `(tactic| k_extra "my call type:zip")
local macro_rules | `(tactic| walk_at "call builtin:any") => `(tactic| k_extra "my call builtin:any")
local macro_rules | `(tactic| walk_at "compareOp Eq ref ref") => `(tactic| k_extra "my compareOp Eq ref ref")
local macro_rules | `(tactic| walk_at "compareOp NotIn str str") => `(tactic| k_extra "my compareOp NotIn str str")
set_option maxRecDepth 100000 in
set_option maxHeartbeats 100000000 in
theorem PySem.Challenge.cw_pg0114_01_holds : PySem.Challenge.rw_pg0114_01.Holds := by
  exact Mine.hd (by
    k_with_none
    w_top off
    (k_with "my eval ListComp" => refine halt ?_)
    (k_with "my call builtin:len" => refine halt ?_)
    (k_with "my subscriptTail List Slice ref ref" => refine halt ?_)
    (k_with "my last subscriptTail" => refine halt ?_)
    k_go0
    (all_goals try k_fold)
    k_steps
    unfold Halt
    rename ¬ _ < _ => hc63
    rename List Int => xs
    rename IntsAre _ xs => hxs
    refine len_script (by is_list) hxs hc63 fun t k => ?_
    k_steps
    unfold Halt
    rename Fr _ _ _ _ => F1
    rename News _ _ _ _ => N1
    refine' slice_from (ns := [0, 1, 1, 0, 1, 0, 1]) F1 N1 ?saLW (.cons _ _ (.cons _ _ (.cons _ _ (.cons _ _ (.cons _ _ (.cons _ _ (.cons _ _ .nil))))))) ?s0LW ?shLW ?ssLW ?szLW
    case saLW => is_list
    case s0LW => omega
    case ssLW => with_unfolding_all rfl
    case szLW => exact Nat.le_of_ble_eq_true rfl
    case shLW =>
      intro D9 ws9 h9 F9 N9 l9 hI9
      k_lt l9
      clear F1 N1
      (try dsimp only)
      k_steps
      k_with_none
      w_top off
      (k_with "my eval ListComp" => refine halt ?_)
      unfold Halt
      rename Fr _ _ _ _ => F9
      rename News _ _ _ _ => N9
      rename Top _ _ _ _ _ _ => T9
      rename Below _ _ _ _ => K9
      rename Frag.In _ _ => X9
      rename IntsAre _ (List.take 7 _ ++ _) => hI9
      have h7 := hI9.length
      rename List Value => wsN
      rename List Int => xs
      rw [ns_len] at h7
      refine' listC (cl := []) (fun _ => true) (fun v y => ∃ k t u, v = Value.int k t ∧ y = Value.str (letter (bit k)) u) ?thLX ?tclosLX ?tcellLX ?tkindLX ?tnamesLX ?txLX ?tmainLX
      case thLX => rfl
      case tclosLX => with_unfolding_all rfl
      case tcellLX => decide
      case tkindLX => rfl
      case tnamesLX => decide
      case txLX => rfl
      case' tmainLX =>
        (k_with "Exists" => refine halt ?_)
        k_steps
        refine ⟨_, wsN, rfl, by is_list, by rw [h7]; decide, ?ttLX, ?teLX, ?tdLX⟩
      case ttLX => exact fun C v s₃ m₃ _ _ _ _ _ E' => wpAny_tests_nil ⟨rfl, Keeps.refl _⟩
      case teLX =>
        intro C v s₃ m₃ hC hv _ hns hm hk E'
        obtain ⟨k9, t9, rfl⟩ := ints_mem hI9 v hv
        obtain ⟨oC, hoC, hNs⟩ := LCg.ns_obj hns
        have F5 := F9.keeps hk
        have N5 := news_fresh F9 N9 hk hC hoC
        clear F9 N9
        k_steps
        · unfold Halt
          dsimp only
          rw [item_ab]
          exact ⟨_, _, _, rfl, rfl⟩
        all_goals exact Keeps.refl _
      case tdLX =>
        intro D h' tk ys hD hpl hpair hk
        obtain ⟨ys⟩ := ys
        obtain ⟨nD, hoD⟩ := hpl
        have F5 := F9.keeps hk
        have N5 := news_none F9 N9 hk hD hoD
        clear F9 N9
        rw [List.filter_eq_self.mpr fun _ _ => rfl] at hpair
        have hstr := strs_pair hI9 hpair
        (k_with "call builtin:str.join" => refine halt ?_)
        k_steps
        unfold Halt
        refine join_listW (by is_list) hstr (by decide) ?_ ?_
        · rw [let_sum, ns_len]; decide
        intro tj kj
        rw [join_bits]
        have hb7 : (List.map bit (List.take 7 xs ++ List.drop (xs.length : Int).toNat [0, 1, 1, 0, 1, 0, 1])).length = 7 := by rw [List.length_map]; exact ns_len xs
        generalize List.map bit (List.take 7 xs ++ List.drop (xs.length : Int).toNat [0, 1, 1, 0, 1, 0, 1]) = bs at hb7 ⊢
        clear hstr
        have N6 := drop_five N5
        clear N5
        (k_with "exec For Name Call cons nil" => refine halt ?_)
        (k_with "pyIter ref" => refine halt ?_)
        k_steps
        unfold Halt
        rename Fr _ _ _ _ => F9
        rename News _ _ _ _ => N9
        rename (_ : Obj).data = Data.cell (some (Value.int _ _)) => hW9
        rename (_ : Obj).data = Data.cell (some (Value.str _ _)) => hT9
        obtain ⟨m9, F8, hw9, hm9⟩ := fr_forget F9 rfl rfl
        have N8 := drop_two N9
        clear F9 N9 hI9
        generalize (List.take 7 xs ++ List.drop (xs.length : Int).toNat [0, 1, 1, 0, 1, 0, 1]).sum = S at *
        obtain ⟨M, eM, hM3, hM5⟩ := three S
        obtain ⟨W, eW, hW7, hW11⟩ := five S
        rw [eM] at hm9
        rw [eW] at hW9
        k_with_none
        w_top off
        (k_with "my eval ListComp" => refine halt ?_)
        (k_with "my exec Assign cons ListComp" => refine halt ?_)
        (k_with "my binaryOp Add str str" => (refine SBL.add (fun _ _ => ?_) (by assumption)))
        (k_with "my UnrEndW" => refine halt ?_)
        rename Fr _ _ _ _ => F8
        rename News _ _ _ _ => N8
        rename Top _ _ _ _ _ _ => T9
        rename Below _ _ _ _ => K9
        rename Frag.In _ _ => X9
        rename _ = some (Value.ref _) => hw9
        rename _ = some (Value.int _ _) => hm9
        rename (_ : Obj).data = Data.cell (some (Value.int _ _)) => hW9
        rename (_ : Obj).data = Data.cell (some (Value.str _ _)) => hT9
        rename CodeHd _ _ _ => hcode
        obtain ⟨tM, hm9⟩ := ex_int hm9
        obtain ⟨tW, hW9⟩ := ex_cint hW9
        obtain ⟨tT, hT9⟩ := ex_cstr hT9
        have F7 := fr_kst (two_ps hw9 hm9) F8
        clear F8
        dsimp only [kstB] at F7
        k_with_none
        (k_with "my eval ListComp" => refine halt ?_)
        (k_with "my exec Assign cons ListComp" => refine halt ?_)
        (k_with "my binaryOp Add str str" => (refine SBL.add (fun _ _ => ?_) (by assumption)))
        (k_with "my UnrEndW" => refine halt ?_)
        (k_with "call type:range" => refine halt ?_)
        with_unfolding_all refine' For_turns F7 ?_
        k_whole
        k_steps
        unfold Halt
        rename Fr _ _ _ _ => F9
        rename News _ _ _ _ => N9
        with_unfolding_all refine' words_loop ?hhLY ?hvLY ?hnLY ?F1LY ?N1LY ?hw1LY ?hm1LY ?turn1LY ?done1LY
        case F1LY => exact F9
        case N1LY => exact N9
        case hw1LY => rfl
        case hm1LY => rfl
        case hvLY => exact rfl
        case hhLY => rfl
        case hnLY => omega
        case turn1LY =>
          clear F9 N9
          rintro I i t h tk m nw hI hi ⟨Dw, vs, k, tM1, rfl, hstr, hw, hm⟩ F6
          have F5 := fr_kst (two_ps hw hm) F6
          clear F6
          dsimp only [kstB] at F5
          obtain ⟨hI1, hI2, hI3⟩ := hI
          ktu_objs
          k_steps
          unfold Halt
          rename Fr _ _ _ _ => F4
          rename News _ _ _ _ => N4
          have hl1 : vs.length = 2 ^ i := by rw [StrsAre.length hstr, List.length_map, wordsB_len]
          have hl2 : (2 : Nat) ^ i ≤ 2 ^ 5 := Nat.pow_le_pow_right (by decide) (by omega)
          refine' twoA (cl := []) WordF ?ahLY ?aswLY ?aclosLY ?acellLY ?akindLY ?anamesLY ?axLY ?ayLY ?axyLY ?azLY ?apLY ?amainLY
          case ahLY => rfl
          case aswLY => with_unfolding_all rfl
          case aclosLY => with_unfolding_all rfl
          case acellLY => decide
          case akindLY => rfl
          case anamesLY => decide
          case axLY => rfl
          case ayLY => rfl
          case axyLY => decide
          case azLY => rfl
          case apLY => rfl
          case' amainLY =>
            (k_with "Exists" => refine halt ?_)
            k_steps
            refine ⟨_, vs, _, rfl, by is_list, by rw [sizeLine_eq]; omega, F4.ns, ?aelLY, ?adoneLY⟩
          case aelLY =>
            intro C v c u s₃ m₃ hC hv hns hx hy hk E'
            obtain ⟨wd, tw, hwd, rfl⟩ := strs_mem hstr v hv
            obtain ⟨oC, hoC, hNs⟩ := LCg.ns_obj hns
            have F3 := F4.keeps hk
            have N3 := news_fresh F4 N4 hk hC hoC
            clear F4 N4
            have hlw : (tx wd).length + (letter c).length ≤ sizeLine := by
              rw [tx_len, wordsB_mem hwd, sizeLine_eq]
              show i + 1 ≤ _
              omega
            k_steps
            · rw [tx_snoc]
              exact ⟨wd, _, _, rfl, rfl⟩
            · exact ⟨_, _, rfl, fun _ _ e => e⟩
          case adoneLY =>
            intro D h' tk' ys hD hpl hTwo hn hk
            obtain ⟨ys⟩ := ys
            obtain ⟨nD, hoD⟩ := hpl
            obtain ⟨F3, N3⟩ := news_noneL F4 N4 hn hk hD hoD
            have hstr' := two_words hTwo _ hstr
            clear F4 N4
            k_steps
            unfold Halt
            exact words_end F3 N3 (by assumption) ⟨hI1, hI2, hI3⟩ hstr' (by rfl) (by rfl)
        case done1LY =>
          clear F9 N9
          rintro h tk m nw ⟨Dw, vs, k, tM1, rfl, hstr, hw, hm⟩ F6
          have F5 := fr_kst (two_ps hw hm) F6
          clear F6
          intro N5
          dsimp only [kstB] at F5
          k_steps
          unfold Halt
          k_with_none
          w_top off
          (k_with "my eval ListComp" => refine halt ?_)
          (k_with "my exec Assign cons ListComp" => refine halt ?_)
          rename Fr _ _ _ _ => F5
          rename News _ _ _ _ => N5
          rename Top _ _ _ _ _ _ => T9
          rename Below _ _ _ _ => K9
          rename Frag.In _ _ => X9
          rename (_ : Obj).data = Data.cell (some (Value.int _ _)) => hW9
          rename (_ : Obj).data = Data.cell (some (Value.str _ _)) => hT9
          rename CodeHd _ _ _ => hcode
          rename StrsAre _ (List.map tx _) => hstr
          rename List.length _ = 7 => hb7
          rename List Bool => bs
          rename List Value => vs
          rename _ ≤ 5 => hM5
          rename 3 ≤ _ => hM3
          rename 7 ≤ _ => hW7
          rename _ ≤ 11 => hW11
          rename 7 + _ = _ => eW
          rename 3 + _ = _ => eM
          refine' listCA (p := pLeft bs) (F := fun v y => y = v) ?hLZ ?swLZ ?closLZ ?cellLZ ?kindLZ ?namesLZ ?xLZ ?yLZ ?pLZ ?mainLZ
          case hLZ => rfl
          case swLZ => with_unfolding_all rfl
          case closLZ => with_unfolding_all rfl
          case cellLZ => decide
          case kindLZ => rfl
          case namesLZ => decide
          case xLZ => rfl
          case yLZ => rfl
          case pLZ => rfl
          case' mainLZ =>
            (k_with "Exists" => refine halt ?_)
            k_steps
            refine ⟨_, vs, _, rfl, by is_list, ?szLZ, F5.ns, ?tstLZ, ?eltLZ, ?donLZ⟩
          case szLZ =>
            rw [StrsAre.length hstr, List.length_map, wordsB_len, sizeLine_eq]
            exact Nat.le_trans (Nat.pow_le_pow_right (by decide) hM5) (by decide)
          case eltLZ =>
            intro C v s₃ m₃ hC hv hp hns hm hk E'
            obtain ⟨oC, hoC, hNs⟩ := LCg.ns_obj hns
            have F3 := F5.keeps hk
            have N3 := news_fresh F5 N5 hk hC hoC
            clear F5 N5
            k_steps
            all_goals exact Keeps.refl _
          case tstLZ =>
            intro C v s₃ m₃ hC hv hns hm hk E'
            obtain ⟨wd, t, hwd, rfl⟩ := strs_mem hstr v hv
            obtain ⟨oC, hoC, hNs⟩ := LCg.ns_obj hns
            have F3 := F5.keeps hk
            have N3 := news_fresh F5 N5 hk hC hoC
            clear F5 N5
            refine wpAny_tests_one ?_
            (k_with "call ref" => refine halt ?_)
            k_steps
            unfold Halt
            rename Fr _ _ _ _ => F2
            refine' left_spec _ _ _ _ _ _ _ _ _ _ _ _ _ _ _ _ _ (tx bs) (tx wd) _ _ K9 F2 X9 T9 ?c1LZ ?c2LZ ?c3LZ ?c4LZ ?c5LZ ?c6LZ
            case c1LZ => rfl
            case c2LZ => decide
            case c3LZ => decide
            case c4LZ => rw [tx_len, hb7]; decide
            case c5LZ => rw [tx_len, wordsB_mem hwd]; omega
            case c6LZ =>
              intro h2 tk2 hk2
              clear F2 N3
              (try dsimp only)
              k_steps
              exact ⟨_, _, rfl, hk2⟩
          case donLZ =>
            intro D h' tk ys hD hpl hpair hn hk
            obtain ⟨ys⟩ := ys
            obtain ⟨nD, hoD⟩ := hpl
            obtain ⟨F3, N3⟩ := news_noneL F5 N5 hn hk hD hoD
            have htold := told_strs hstr hpair
            clear F5 N5
            k_steps
            unfold Halt
            k_with_none
            w_top off
            (k_with "my eval ListComp" => refine halt ?_)
            (k_with "my exec Assign cons ListComp" => refine halt ?_)
            (k_with "my binaryOp Add str str" => (refine SBL.add (fun _ _ => ?_) (by assumption)))
            rename Fr _ _ _ _ => F5
            rename News _ _ _ _ => N5
            rename Top _ _ _ _ _ _ => T9
            rename Below _ _ _ _ => K9
            rename Frag.In _ _ => X9
            rename (_ : Obj).data = Data.cell (some (Value.int _ _)) => hW9
            rename (_ : Obj).data = Data.cell (some (Value.str _ _)) => hT9
            rename CodeHd _ _ _ => hcode
            rename StrsAre _ (List.map tx (wordsB _)) => hstr
            rename StrsAre _ (List.map tx (List.filter _ _)) => htold
            rename List.length _ = 7 => hb7
            rename List Bool => bs
            rename _ ≤ 5 => hM5
            rename 3 ≤ _ => hM3
            rename 7 ≤ _ => hW7
            rename _ ≤ 11 => hW11
            rename 7 + _ = _ => eW
            rename 3 + _ = _ => eM
            refine' listCA (p := pLeft bs) (F := fun v y => y = v) ?hLA ?swLA ?closLA ?cellLA ?kindLA ?namesLA ?xLA ?yLA ?pLA ?mainLA
            case hLA => rfl
            case swLA => with_unfolding_all rfl
            case closLA => with_unfolding_all rfl
            case cellLA => decide
            case kindLA => rfl
            case namesLA => decide
            case xLA => rfl
            case yLA => rfl
            case pLA => rfl
            case' mainLA =>
              (k_with "Exists" => refine halt ?_)
              k_steps
              refine ⟨_, _, _, rfl, by is_list, ?szLA, F5.ns, ?tstLA, ?eltLA, ?donLA⟩
            case szLA =>
              rw [StrsAre.length hstr, List.length_map, wordsB_len, sizeLine_eq]
              exact Nat.le_trans (Nat.pow_le_pow_right (by decide) hM5) (by decide)
            case eltLA =>
              intro C v s₃ m₃ hC hv hp hns hm hk E'
              obtain ⟨oC, hoC, hNs⟩ := LCg.ns_obj hns
              have F3 := F5.keeps hk
              have N3 := news_fresh F5 N5 hk hC hoC
              clear F5 N5
              k_steps
              all_goals exact Keeps.refl _
            case tstLA =>
              intro C v s₃ m₃ hC hv hns hm hk E'
              obtain ⟨wd, t, hwd, rfl⟩ := strs_mem hstr v hv
              obtain ⟨oC, hoC, hNs⟩ := LCg.ns_obj hns
              have F3 := F5.keeps hk
              have N3 := news_fresh F5 N5 hk hC hoC
              clear F5 N5
              refine wpAny_tests_one ?_
              (k_with "call ref" => refine halt ?_)
              k_steps
              unfold Halt
              refine' txC (cl := []) DotF ?ihLA ?iclosLA ?icellLA ?ikindLA ?inamesLA ?ixLA ?imainLA
              case ihLA => rfl
              case iclosLA => with_unfolding_all rfl
              case icellLA => decide
              case ikindLA => rfl
              case inamesLA => decide
              case ixLA => rfl
              case' imainLA =>
                (k_with "Exists" => refine halt ?_)
                k_steps
                refine ⟨wd, _, rfl, by rw [wordsB_mem hwd, sizeLine_eq]; omega, ?ielLA, ?idonLA⟩
              case ielLA =>
                intro C2 c u s₄ m₄ hC2 hns2 hm2 hk2 E2
                obtain ⟨oC2, hoC2, hNs2⟩ := LCg.ns_obj hns2
                have F2 := F3.keeps hk2
                have N2 := news_fresh F3 N3 hk2 hC2 hoC2
                have hsz : (letter c).length + (Str.ofString "...").length ≤ sizeLine := by rw [sizeLine_eq]; cases c <;> decide
                clear F3 N3
                k_steps
                · exact ⟨c, _, _, rfl, rfl⟩
                · exact ⟨_, _, rfl, fun _ _ e => e⟩
              case idonLA =>
                intro D2 h2 tk2 ys2 vs2 hD2 hpl2 hvl hva hpair2 hk2
                obtain ⟨ys2⟩ := ys2
                obtain ⟨nD2, hoD2⟩ := hpl2
                have F2 := F3.keeps hk2
                have N2 := news_none F3 N3 hk2 hD2 hoD2
                have hdots := dot_strs hvl hva hpair2
                clear F3 N3
                (try dsimp only)
                (k_with "call builtin:str.join" => refine halt ?_)
                k_steps
                unfold Halt
                refine join_listW (by is_list) hdots (by decide) (by rw [dots_len, wordsB_mem hwd]; omega) ?_
                intro tj kj
                obtain ⟨w1, w2, w3⟩ := want_ok hM3 hM5 hwd
                have hsz : (Str.ofString "...").length + (Txt.join (Str.ofString "") (wd.map fun c => letter c ++ Str.ofString "...")).length ≤ sizeLine := by
                  have e : (wantS wd).length = (Str.ofString "...").length + (Txt.join (Str.ofString "") (wd.map fun c => letter c ++ Str.ofString "...")).length := str_len _ _
                  rw [← e, sizeLine_eq]
                  omega
                (try dsimp only)
                k_steps
                unfold Halt
                rename Fr _ _ _ _ => F1
                refine' ell_spec _ _ _ _ _ _ _ _ _ _ _ _ _ _ _ _ _ (wantS wd) (tx bs) (wd.map letter) _ _ K9 F1 X9 T9 ?d1LA ?d2LA ?d3LA ?d4LA ?d5LA w1 w2 ?d6LA
                case d1LA => rfl
                case d2LA => decide
                case d3LA => decide
                case d4LA => exact w3
                case d5LA => rw [tx_len, hb7]; decide
                case d6LA =>
                  intro h4 tk4 hk4
                  rw [ellB_leftI hb7, ← leftB_leftI hb7]
                  clear F1 N2
                  (try dsimp only)
                  k_steps
                  exact ⟨_, _, rfl, fun b o e => hk4 b o (hk2 b o e)⟩
            case donLA =>
              intro D h' tk ys hD hpl hpair hn hk
              obtain ⟨ys⟩ := ys
              obtain ⟨nD, hoD⟩ := hpl
              obtain ⟨F3, N3⟩ := news_noneL F5 N5 hn hk hD hoD
              have htaken := told_strs hstr hpair
              clear F5 N5
              k_with_none
              (k_with "my eval ListComp" => refine halt ?_)
              (k_with "my exec Assign cons ListComp" => refine halt ?_)
              (k_with "my binaryOp Add str str" => (refine SBL.add (fun _ _ => ?_) (by assumption)))
              (k_with "call ref" => refine halt ?_)
              k_steps
              unfold Halt
              k_with_none
              w_top off
              (k_with "my subscriptTail Name Slice ref ref" => refine halt ?_)
              (k_with "my eval ListComp" => refine halt ?_)
              (k_with "my exec Assign cons ListComp" => refine halt ?_)
              rename Fr _ _ _ _ => F5
              rename News _ _ _ _ => N5
              rename Top _ _ _ _ _ _ => T9
              rename Below _ _ _ _ => K9
              rename Frag.In _ _ => X9
              rename (_ : Obj).data = Data.cell (some (Value.int _ _)) => hW9
              rename (_ : Obj).data = Data.cell (some (Value.str _ _)) => hT9
              rename CodeHd _ _ _ => hcode
              rename StrsAre _ (List.map tx (List.filter _ _)) => htaken
              rename List.length _ = 7 => hb7
              rename List Bool => bs
              rename _ ≤ 5 => hM5
              rename 3 ≤ _ => hM3
              rename 7 ≤ _ => hW7
              rename _ ≤ 11 => hW11
              rename 7 + _ = _ => eW
              rename 3 + _ = _ => eM
              rename 16 < Array.size _ => l0
              obtain ⟨X, x0, x1, x2, x3⟩ := counts_law hb7 hW7 hW11
              have N4 := perm_counts N5
              have h16 := off16 N4 (by show @LT.lt Nat _ 16 (_ + 1 + 1); omega) (by show @LT.lt Nat _ 16 (_ + 1); omega)
              have l0' : @LT.lt Nat _ 16 _ := l0
              refine' counts_spec (text := tx bs) (X := X) K9 F5 N4 X9 T9 ?p1LB h16 ?p2LB ?p3LB ?p4LB ?p5LB ?p6LB ?p7LB hW7 hW11 ?p8LB ?p9LB ?p10LB ?p11LB
              case p1LB => rfl
              case p2LB => rw [tx_size, hb7]
              case p3LB => exact tx_ab
              case p4LB => exact hcode
              case p5LB => decide
              case p6LB => decide
              case p7LB => rfl
              case p8LB =>
                exact x0
              case p9LB => exact x1
              case p10LB => exact x2
              case p11LB =>
                intro r c' oc vs1 t1 vsC kC h' tk' F3 N3 hoc hoc1 hint hlt hrc
                rw [x3] at hint
                clear F5 N4 N5
                k_with_none
                (k_with "my subscriptTail Name Slice ref ref" => refine halt ?_)
                (k_with "my eval ListComp" => refine halt ?_)
                (k_with "my exec Assign cons ListComp" => refine halt ?_)
                (k_with "call ref" => refine halt ?_)
                k_steps
                unfold Halt
                rename Fr _ _ _ _ => F2
                rename News _ _ _ _ => N2
                have hl8 : (List.map (fun (d : Nat) => (d : Int)) (DI bs)).length = 8 := by rw [List.length_map]; exact digs_length _ _ _
                refine' kmk_slice_ints F2 N2 ?slLB ?spLB ?sqLB hint (slice_one hint hl8 hM3 hM5) rfl ?smLB ?ssLB ?stLB ?szLB
                case slLB => is_list
                case spLB => exact IsPart.int _ _
                case sqLB => exact IsPart.int _ _
                case ssLB => with_unfolding_all rfl
                case stLB => intro _; with_unfolding_all rfl
                case szLB => rw [List.size_toArray, hint.length, hl8, sizeLine_eq]; decide
                case smLB =>
                  intro DS wS hS FS NS lS hIS _ _
                  clear F2 N2
                  (k_with "call type:str" => refine halt ?_)
                  k_steps
                  unfold Halt
                  k_with_none
                  w_top off
                  (k_with "my compareOp NotEq str str" => refine ne_same ?_)
                  (k_with "my call builtin:len" => refine halt ?_)
                  (k_with "my eval ListComp" => refine halt ?_)
                  (k_with "my exec Assign cons ListComp" => refine halt ?_)
                  rename Fr _ _ _ _ => F5
                  rename News _ _ _ _ => N5
                  rename Top _ _ _ _ _ _ => T9
                  rename Below _ _ _ _ => K9
                  rename Frag.In _ _ => X9
                  rename (_ : Obj).data = Data.cell (some (Value.int _ _)) => hW9
                  rename (_ : Obj).data = Data.cell (some (Value.str _ _)) => hT9
                  rename CodeHd _ _ _ => hcode
                  rename StrsAre _ (List.map tx (List.filter _ _)) => htaken
                  revert htaken
                  rename StrsAre _ (List.map tx (List.filter _ _)) => htold
                  intro htaken
                  rename IntsAre _ [_] => hIS
                  rename IntsAre _ (List.map _ (DI _)) => hint
                  rename List.length _ = 7 => hb7
                  rename List Bool => bs
                  rename _ ≤ 5 => hM5
                  rename 3 ≤ _ => hM3
                  rename 7 ≤ _ => hW7
                  rename _ ≤ 11 => hW11
                  rename 7 + _ = _ => eW
                  rename 3 + _ = _ => eM
                  rename 16 < Array.size _ => l0
                  rename _ = 8 => hl8
                  obtain ⟨q1, q2, q3⟩ := kept_len hb7 hM5
                  unfold keptW at q1 q2 q3
                  refine str_first F5 N5 htaken hIS q1 q2 q3 (Nat.lt_of_le_of_lt q2 (by decide)) (by rfl) (by ktr_units) ?_
                  intro h1 u1 tk1 F4 N4
                  clear F5 N5
                  k_with_none
                  (k_with "my compareOp NotEq str str" => refine ne_same ?_)
                  (k_with "my call builtin:len" => refine halt ?_)
                  (k_with "my eval ListComp" => refine halt ?_)
                  (k_with "my exec Assign cons ListComp" => refine halt ?_)
                  (k_with "call type:str" => refine halt ?_)
                  k_steps
                  unfold Halt
                  rename Fr _ _ _ _ => F3
                  rename News _ _ _ _ => N3
                  refine len_told (by is_list) htold q2 fun t k => ?_
                  k_steps
                  unfold Halt
                  rename Fr _ _ _ _ => F2
                  rename News _ _ _ _ => N2
                  refine str_second F2 N2 htold q2 q3 (Nat.lt_of_le_of_lt q2 (by decide)) (by rfl) (by ktr_units) ?_
                  intro h5 u5 tk5 F1 N1
                  clear F2 N2
                  generalize PyData.shown _ = Z1
                  k_with_none
                  (k_with "my compareOp NotEq str str" => refine ne_same ?_)
                  (k_with "my call builtin:len" => refine halt ?_)
                  (k_with "my eval ListComp" => refine halt ?_)
                  (k_with "my exec Assign cons ListComp" => refine halt ?_)
                  k_steps
                  k_with_none
                  w_top off
                  (k_with "my eval ListComp" => refine halt ?_)
                  (k_with "my exec Assign cons ListComp" => refine halt ?_)
                  (k_with "my call type:range" => refine halt ?_)
                  (k_with "my call builtin:sum" => refine halt ?_)
                  (k_with "my subscriptTail" => refine halt ?_)
                  unfold Halt
                  rename Fr _ _ _ _ => F5
                  rename News _ _ _ _ => N5
                  rename Top _ _ _ _ _ _ => T9
                  rename Below _ _ _ _ => K9
                  rename Frag.In _ _ => X9
                  rename (_ : Obj).data = Data.cell (some (Value.int _ _)) => hW9
                  rename (_ : Obj).data = Data.cell (some (Value.str _ _)) => hT9
                  rename (_ : Obj).data = Data.fields _ => hoc
                  rename _ = some (Value.str inQual _) => hoc1
                  rename CodeHd _ _ _ => hcode
                  rename IntsAre _ (List.map _ (DI _)) => hint
                  rename List.length _ = 7 => hb7
                  rename List Bool => bs
                  rename _ ≤ 5 => hM5
                  rename 3 ≤ _ => hM3
                  rename 7 ≤ _ => hW7
                  rename _ ≤ 11 => hW11
                  rename 7 + _ = _ => eW
                  rename 3 + _ = _ => eM
                  rename 16 < Array.size _ => l0
                  refine' rangeCA (cl := [(Str.ofString "width", _)]) MostF ?hLD ?swLD ?closLD ?cellLD ?kindLD ?namesLD ?xLD ?yLD ?pLD ?mainLD
                  case hLD => rfl
                  case swLD => with_unfolding_all rfl
                  case closLD => with_unfolding_all rfl
                  case cellLD => decide
                  case kindLD => rfl
                  case namesLD => decide
                  case xLD => rfl
                  case yLD => rfl
                  case pLD => rfl
                  case' mainLD =>
                    k_with_none
                    (k_with "my eval ListComp" => refine halt ?_)
                    (k_with "my exec Assign cons ListComp" => refine halt ?_)
                    (k_with "my call type:range" => refine halt ?_)
                    (k_with "my call builtin:sum" => refine halt ?_)
                    (k_with "my subscriptTail" => refine halt ?_)
                    k_steps
                    unfold Halt
                    refine call_range_1 ?_
                    refine ⟨_, 8, _, _, _, _, rfl, IsRange.new _ _ _ _ _ _ _, by decide, (F5.push _).ns, ?eltLD, ?donLD⟩
                  case eltLD =>
                    intro C i t s₃ m₃ hC hi hns hm hk E'
                    have hk0 : ∀ b o, _ := fun b o e => hk b o (Heap.get?_push_of_some _ e)
                    obtain ⟨oC, hoC, hNs⟩ := LCg.ns_obj hns
                    have F3 := F5.keeps hk0
                    have N3 := news_fresh F5 N5 hk0 (Nat.le_trans (by show @LE.le Nat _ _ _; dsimp only; rw [Heap.size_push]; exact Nat.le_succ _) hC) hoC
                    clear F5 N5
                    k_with_none
                    (k_with "my eval ListComp" => refine halt ?_)
                    (k_with "my exec Assign cons ListComp" => refine halt ?_)
                    (k_with "my call type:range" => refine halt ?_)
                    (k_with "my call builtin:sum" => refine halt ?_)
                    (k_with "my subscriptTail" => refine halt ?_)
                    (k_with "call ref" => refine halt ?_)
                    (k_with "binaryOp Pow int int" => refine halt ?_)
                    k_steps
                    unfold Halt
                    refine PyProof.Rows.pow_int_small (by omega) (by omega) (base_abs hW11) ?_
                    k_steps
                    unfold Halt
                    rename Fr _ _ _ _ => F2
                    rename News _ _ _ _ => N2
                    have N1 := perm_hit N2
                    refine' int2_hit (D := i + 1) K9 F2 N1 hoc hoc1 X9 T9 ?g1LD ?g2LD ?g3LD ?g4LD ?g5LD ?g6LD hW7 hW11 (pow_cast _ i) ?g7LD ?g8LD (pow_bits hW7 hW11 hi (pow_cast _ i) rfl) ?g9LD ?g10LD ?g11LD
                    case g1LD => rfl
                    case g2LD =>
                      intro p hp
                      have l0' : @LT.lt Nat _ 16 _ := l0
                      simp only [List.mem_cons, List.not_mem_nil, or_false] at hp
                      rcases hp with rfl | rfl
                      · exact Nat.ne_of_gt (by show @LT.lt Nat _ 16 (_ + 1 + 1); omega)
                      · exact Nat.ne_of_gt (by show @LT.lt Nat _ 16 (_ + 1); omega)
                    case g3LD => exact hcode
                    case g4LD => decide
                    case g5LD => decide
                    case g6LD => rfl
                    case g7LD => exact Nat.pow_pos (Nat.succ_pos _)
                    case g8LD => exact pow_inB hW7 hW11 hi
                    case g9LD => omega
                    case g10LD => omega
                    case g11LD =>
                      intro r9 vs9 k9 h9 tk9 F1 N0 hint9 hk9 hr9
                      have N00 := news_keep N2 hk9 N0
                      clear F2 N2 N0
                      rename News _ _ _ _ => N0
                      have hd8 := digs_map_len hint9
                      (try dsimp only)
                      k_with_none
                      (k_with "my eval ListComp" => refine halt ?_)
                      (k_with "my exec Assign cons ListComp" => refine halt ?_)
                      (k_with "my call type:range" => refine halt ?_)
                      (k_with "my call builtin:sum" => refine halt ?_)
                      (k_with "my subscriptTail" => refine halt ?_)
                      k_steps
                      unfold Halt
                      rename Fr _ _ _ _ => F0
                      refine' slice_ext F0 N0 ?slLD ?spLD ?sqLD ?smLD ?ssLD ?szLD
                      case slLD => is_list
                      case spLD => exact IsPart.none
                      case sqLD => exact IsPart.int _ _
                      case ssLD => with_unfolding_all rfl
                      case szLD => rw [List.size_toArray, hint9.length, hd8, sizeLine_eq]; omega
                      case smLD =>
                        intro DS hS FS NS hkS
                        have hIS := kmk_upto hint9 (y := 8 - (i : Int)) (by omega)
                        have hle := Nat.le_trans (List.length_take_le' (8 - (i : Int)).toNat _) (Nat.le_of_eq hd8)
                        clear F0 N0
                        (try dsimp only)
                        k_steps
                        unfold Halt
                        refine sum_ext rfl (by is_list) hIS fun h10 tk10 t10 hk10 => ?_
                        (try dsimp only)
                        k_steps
                        · exact ⟨_, congrArg (fun z => Value.int z _) (most_sum hW7 hW11 hi)⟩
                        · exact ⟨_, _, rfl, fun b o e => hk10 b o (hkS b o (hk9 b o e))⟩
                  case donLD =>
                    intro D h' tk ys hD hpl hvs hn hk
                    obtain ⟨ys⟩ := ys
                    obtain ⟨nD, hoD⟩ := hpl
                    obtain ⟨F3, N3⟩ := noneL_push F5 N5 hn hk hD hoD
                    have hmost := most_ints hvs
                    clear F5 N5
                    have hl8 := map_DI_len hint
                    k_with_none
                    (k_with "my eval ListComp" => refine halt ?_)
                    (k_with "my exec Assign cons ListComp" => refine halt ?_)
                    (k_with "my call type:range" => refine halt ?_)
                    (k_with "my call builtin:sum" => refine halt ?_)
                    (k_with "my subscriptTail" => refine halt ?_)
                    (k_with "call builtin:len" => refine halt ?_)
                    k_steps
                    unfold Halt
                    k_with_none
                    w_top off
                    (k_with "my call type:zip" => refine halt ?_)
                    (k_with "my call builtin:any" => refine halt ?_)
                    (k_with "my eval ListComp" => refine halt ?_)
                    rename Fr _ _ _ _ => F5
                    rename News _ _ _ _ => N5
                    rename Top _ _ _ _ _ _ => T9
                    rename Below _ _ _ _ => K9
                    rename Frag.In _ _ => X9
                    rename (_ : Obj).data = Data.cell (some (Value.int _ _)) => hW9
                    rename (_ : Obj).data = Data.cell (some (Value.str _ _)) => hT9
                    rename (_ : Obj).data = Data.fields _ => hoc
                    rename _ = some (Value.str inQual _) => hoc1
                    rename CodeHd _ _ _ => hcode
                    rename IntsAre _ (List.map _ (DI _)) => hint
                    rename IntsAre _ (List.map _ mostC) => hmost
                    rename List.length _ = 7 => hb7
                    rename List Bool => bs
                    have hv8 := map_DI_len hint
                    have hm8 := hmost.length
                    refine len_eight (by is_list) hv8 fun t k => ?_
                    k_with_none
                    (k_with "my call type:zip" => refine halt ?_)
                    (k_with "my call builtin:any" => refine halt ?_)
                    (k_with "my eval ListComp" => refine halt ?_)
                    k_steps
                    unfold Halt
                    refine' pairComp (cl := []) (Acc := fun i ys => ys = (List.range i).map fun j => Value.bool (gtB ((DI bs).map fun (d : Nat) => (d : Int)) (mostC.map fun (d : Nat) => (d : Int)) j))
                      (Rel := fun i x y => ∃ t u, x = Value.int (((DI bs).map fun (d : Nat) => (d : Int)).getD i 0) t ∧ y = Value.int ((mostC.map fun (d : Nat) => (d : Int)).getD i 0) u)
                      (F := fun i z => z = Value.bool (gtB ((DI bs).map fun (d : Nat) => (d : Int)) (mostC.map fun (d : Nat) => (d : Int)) i)) (pz := fun _ => true) ?phLE ?pclosLE ?pcellLE ?pkindLE ?pnamesLE ?paLE ?pbLE ?pabLE ?pacc0LE ?paccLLE ?pmainLE
                    case phLE => rfl
                    case pclosLE => with_unfolding_all rfl
                    case pcellLE => decide
                    case pkindLE => rfl
                    case pnamesLE => decide
                    case paLE => rfl
                    case pbLE => rfl
                    case pabLE => decide
                    case pacc0LE => rfl
                    case paccLLE => intro i ys h; rw [h, List.length_map, List.length_range]; exact Nat.le_refl _
                    case pmainLE =>
                      k_steps
                      unfold Halt
                      rename Fr _ _ _ _ => F2
                      rename News _ _ _ _ => N2
                      refine zip_iter rfl (by is_list) (by is_list) hv8 hm8 fun I fp wr St Mid h3 W3 st3 fp3 wr3 hk3 le3 => ⟨I, fp, wr, 8, _, St, Mid, rfl, W3, by decide, st3, fp3, ?zptLE, ?ztestLE, ?zeltLE, ?zFLE, ?zTLE, ?zdoneLE⟩
                      case zptLE =>
                        rintro i vals ⟨x, y, hx, hy, rfl⟩
                        obtain ⟨t, rfl⟩ := ints_at (i := i) hint (by simpa using hx)
                        obtain ⟨u, rfl⟩ := ints_at (i := i) hmost (by simpa using hy)
                        exact ⟨_, _, rfl, t, u, rfl, rfl⟩
                      case ztestLE => exact fun C i x y s₃ m₃ E' _ _ _ _ _ _ _ => wpAny_tests_nil ⟨rfl, Keeps.refl _⟩
                      case zeltLE =>
                        intro C i x y s₃ m₃ E' hC hi hR _ hns ha hb hk
                        obtain ⟨t, u, rfl, rfl⟩ := hR
                        obtain ⟨oC, hoC, hNs⟩ := LCg.ns_obj hns
                        have hkk : ∀ b o, _ := fun b o e => hk b o (fun hw => by have q := wr3 b hw; rw [e] at q; cases q) (hk3 b o e)
                        have F3 := F2.keeps hkk
                        have N3 := news_fresh F2 N2 hkk (Nat.le_trans le3 hC) hoC
                        clear F2 N2
                        k_steps
                        all_goals exact Keeps.refl _
                      case zFLE => exact fun i ys _ _ h => by cases h
                      case zTLE =>
                        intro i ys z _ hA _ hF
                        rw [hA, hF, List.range_succ, List.map_append]
                        rfl
                      case zdoneLE =>
                        intro D h' tk ys hD hpl hA hk
                        obtain ⟨ys⟩ := ys
                        obtain ⟨nD, hoD⟩ := hpl
                        have hkk : ∀ b o, _ := fun b o e => hk b o (fun hw => by have q := wr3 b hw; rw [e] at q; cases q) (hk3 b o e)
                        have F3 := F2.keeps hkk
                        have N3 := news_fresh F2 N2 hkk (Nat.le_trans le3 hD) hoD
                        have hbool := bools_are (List.range 8) (gtB ((DI bs).map fun (d : Nat) => (d : Int)) (mostC.map fun (d : Nat) => (d : Int)))
                        have hA' : ys = _ := hA
                        rw [← hA'] at hbool
                        clear F2 N2
                        (try dsimp only)
                        k_steps
                        unfold Halt
                        refine LSm.any_bools F3 N3 rfl (by is_list) hbool ?_
                        intro h5 tk5 F4 N4
                        rw [most_le hb7]
                        clear F3 N3
                        (try dsimp only)
                        k_with_none
                        w_top off
                        (k_with "my compareOp Eq ref ref" => refine halt ?_)
                        (k_with "my compareOp NotIn str str" => (first | refine notin_t (by assumption) false rfl (by assumption) ?_ | refine notin_f (by assumption) false rfl (by assumption) ?_ | refine notin_t (by assumption) true rfl (by assumption) ?_ | refine notin_f (by assumption) true rfl (by assumption) ?_))
                        rename Fr _ _ _ _ => F4
                        rename News _ _ _ _ => N4
                        rename Top _ _ _ _ _ _ => T9
                        rename Below _ _ _ _ => K9
                        rename Frag.In _ _ => X9
                        rename (_ : Obj).data = Data.cell (some (Value.int _ _)) => hW9
                        rename (_ : Obj).data = Data.cell (some (Value.str _ _)) => hT9
                        rename (_ : Obj).data = Data.fields _ => hoc
                        rename _ = some (Value.str inQual _) => hoc1
                        rename CodeHd _ _ _ => hcode
                        rename IntsAre _ (List.map _ (DI _)) => hint
                        rename IntsAre _ (List.map _ mostC) => hmost
                        rename List.length _ = 7 => hb7
                        rename List Bool => bs
                        k_with_none
                        (k_with "my compareOp Eq ref ref" => refine halt ?_)
                        (k_with "my compareOp NotIn str str" => (first | refine notin_t (by assumption) false rfl (by assumption) ?_ | refine notin_f (by assumption) false rfl (by assumption) ?_ | refine notin_t (by assumption) true rfl (by assumption) ?_ | refine notin_f (by assumption) true rfl (by assumption) ?_))
                        k_steps
                        unfold Halt
                        rename Fr _ _ _ _ => F3
                        rename News _ _ _ _ => N3
                        have hL := last_law hb7
                        cases hd1 : dbl false bs <;> cases hd2 : dbl true bs <;> rw [hd1, hd2] at hL <;> simp only [Bool.not_true, Bool.not_false, Bool.and_true, Bool.and_false, Bool.and_self] at hL
                        all_goals
                          refine eq_intsK (by is_list) hint (by is_list) hmost (by ktr_units) ?_
                          rw [hL]
                          k_steps)
end
