import PyProof.Rows.All
import Wide.All
import OpenK.AllK
import Wide.FinOn
import Lean
import PySem.Challenge.RW_qh0048_01
set_option Elab.async false
set_option maxRecDepth 100000
set_option maxHeartbeats 0
set_option linter.all false
section
open PySem PySem.W PySem.W.X PyProof.Rows
namespace Mine
/-- the caller's own place: no stack, nothing held -/
def top0 : Ctx := ⟨.builtin "claim.caller" {}, none, none, [], none⟩
/-- what stands when the caller calls: the heap that the top left, with the arguments on it -/
structure Met {α : Type} (q : Program) (loose : List Str) (XP : (Str → Option Value) → Heap → Prop) (Yf : Shared → α) (Ya : World → α) (r : RowW) (n : Str) (w : World) (before now : Shared) (args : List WData) (vs : List Value) (as : List Addr) (f : Addr) : Prop where
  ground : ∃ mg mb, Ground q loose r.records XP w before mg mb now.heap ∧ mg n = some (.ref f)
  seen : Yf before = Ya w
  fit : r.claim.pre args = true ∧ WData.layableAll args = true
  laid : Laid r.records w before now args vs as
  low : ∀ a ∈ as, (a == sysModules) = false
/-- what a call is to leave -/
abbrev Ended (r : RowW) (before now : Shared) (args : List WData) : Result → Shared → Prop := GoodWG r.claim (classAt before.heap) (ExcName.means before.heap) args now
/-- the walk that the head asks for -/
abbrev WalkX {α : Type} (q : Program) (loose : List Str) (XP : (Str → Option Value) → Heap → Prop) (Yf : Shared → α) (Ya : World → α) (r : RowW) (d : DefRec) (_ : List (Str × Expr)) : Prop :=
  ∀ w before now args vs as f, Met q loose XP Yf Ya r d.name w before now args vs as f →
    ∀ p, Sem.wp (model r.prog w) top0 (PySem.call (.ref f) vs) (fun v _ => Ended r before now args (.ok (.ret v))) (fun e _ => Ended r before now args (.error e)) p now
/-- what the top leaves -/
abbrev Lft (p q : Program) (loose : List Str) (Xt : Shared → Bool) {α : Type} (Yf : Shared → α) (Ya : World → α) (N : Nat) : Prop := LeftO p q loose Xt Yf Ya N
/-- a call by name from the caller's own place comes to an end -/
theorem comes {pr : Program} {w : World} {n : Str} {vs : List Value} {f : Value} {mg : Str → Option Value} {s : Shared} {R : Result → Shared → Prop} (calm : s.asleep) (ns : s.heap.Ns mainGlobals mg) (is : mg n = some f)
    (bare : ∀ x s', R x s' → AllBare s'.gens) (H : ∀ p, Sem.wp (model pr w) top0 (PySem.call f vs) (fun v _ => R (.ok (.ret v))) (fun e _ => R (.error e)) p s) :
    ∃ k x s' s'', schedN (denote table) pr w k (.single s (callStub n vs)) = .halted (outcomeOf x) s'' ∧ s''.heap = s'.heap ∧ s''.os = s'.os ∧ s''.heap.life = s.heap.life ∧ R x s' := by
  have both : ∀ x s', R x s' → R x s' ∧ leftWithCleanup s'.gens = false := fun x s' h => ⟨h, leftWithCleanup_false_of_bare (bare x s' h)⟩
  have run : Sem.wp (model pr w) top0 (callStub n vs).cur (Sem.finPost (model pr w) top0 fun x s' => R x s' ∧ leftWithCleanup s'.gens = false) (fun e _ s' => R (.error e) s' ∧ leftWithCleanup s'.gens = false) default s := by
    show Sem.wp _ _ (nsGet mainGlobals n >>= _) _ _ _ _
    rw [Sem.wp_bind', Sem.wp_nsGet _ _ _ _ _ ns, is]
    show Sem.wp _ _ (PySem.call f vs >>= _) _ _ _ _
    rw [Sem.wp_bind']
    exact Sem.wp_mono _ _ _ (fun _ _ _ h => both _ _ h) (fun _ _ _ h => both _ _ h) _ _ (H default)
  obtain ⟨k, x, s', s'', e1, e2, e3, h⟩ := wp_halts_full calm run
  have same := Shared.forget_eq e3
  exact ⟨k, x, s', s'', e1, same.1, same.2.2.2.1, runN_life _ _ _ e2, h⟩
end Mine
namespace Mine.Hd.PySem.W
/-- the head of a law, its walk at the caller's own place -/
theorem holds_openX {α : Type} {r : OpenRow} {q : Program} {loose : List Str} {Xt : Shared → Bool} {XP : (Str → Option Value) → Heap → Prop} {Yf : Shared → α} {Ya : World → α} {d : DefRec} {kwd : List (Str × Expr)} {N : Nat}
    (top : Lft r.prog q loose Xt Yf Ya N) (facts : ∀ s, Xt s = true → XP (s.heap.nsMap mainGlobals) s.heap) (stay : ∀ mg h h', XP mg h → (∀ b o, h.get? b = some o → h'.get? b = some o) → XP mg h')
    (here : defOf q r.name = some (d, kwd)) (the : r.prog.theDef r.name = some (d.params, d.body, d.scope)) (kws : kwWritten? d.params.kwonlyargs d.params.kw_defaults = some kwd) (recs : ∀ s, Xt s = true → RecFacts r.records s.heap)
    (nowr : (!r.writes || r.records.isEmpty) = true) (said : r.wellSaid = true) (checks : (chainsOk q && opensWell r.prog && (frees r.toRowW && r.within.isEmpty)) = true) (plain : r.prog.bare) (some_args : r.toRowW.promised)
    (walk : WalkX q loose XP Yf Ya r.toRowW d kwd) : r.Holds := by
  simp only [Bool.and_eq_true] at checks
  obtain ⟨⟨chains, opens⟩, free, none_within⟩ := checks
  have parts := frees_parts free
  have inside : r.toRowW.claim.within = [] := List.isEmpty_iff.mp none_within
  refine ⟨said, some_args, ⟨plain, opens, congrArg _ parts.2.2.2.2⟩, RowW.promised.witness some_args, fun w => ?_⟩
  have B := LeftO.behind (XP := fun mg h => XP mg h ∧ RecFacts r.records h) (show LeftO r.prog q loose Xt Yf Ya N from top) (fun s x => ⟨facts s x, recs s x⟩) chains w
  refine B.imp id fun all s x => ?_
  obtain ⟨fenced, e1, e2, s, ran, calm, nogens, main, G, seen⟩ := all s x
  have R := G.X.2
  have bare : Ground q loose [] XP w s _ _ s.heap := { G with X := G.X.1 }
  have G : Ground q loose r.records XP w s _ _ s.heap := R.ground bare
  have gens0 : s.gens = #[] := Array.eq_empty_of_size_eq_zero (by simpa using nogens)
  refine ⟨fenced, e1, e2, s, ran, fun n at_n => ?_, R.1, R.2.1, fun args fit lay ord perm => ?_⟩
  · have : n = r.name := by split at at_n <;> simp_all
    rw [this]; exact pinned_of_view main bare here the kws
  cases lays : layAllW r.toRowW.claim.records (classAt s.heap) w.params ord args s with
  | none => exact absurd (layAllW_isSome G.has args r.args s (pre_splitW fit).1) (by rw [show layAllW r.records _ _ _ _ _ = none from lays]; exact Bool.false_ne_true)
  | some got =>
    obtain ⟨vs, now⟩ := got
    have old := layAllW_keeps args s (vs, now) lays
    have like : now.gens = s.gens ∧ now.drawn = s.drawn ∧ now.os = s.os ∧ now.heap.life = s.heap.life := layAllW_rest args s (vs, now) lays
    obtain ⟨as, rd⟩ := reads_layAllW perm args s (vs, now) lays lay now.heap fun _ _ => id
    have L : Laid r.records w s now args vs as := { laid := ⟨ord, perm, lays⟩, reads := rd.1, within := rd.2.1, old := rd.2.2, keeps := old, gens := by rw [like.1]; exact gens0, os := like.2.2.1 }
    have G1 := G.keeps stay old
    obtain ⟨f, _, _, _, _, _, _, isf, _⟩ := G1.fn here
    have nm : d.name = r.name := defOf_name here
    obtain ⟨k, x, s', s'', halts, eh, eo, el, z⟩ := Mine.comes (R := Mine.Ended r.toRowW s now args) (vs := vs) (Shared.asleep_of_life like.2.2.2 calm) G1.T.g isf
      (fun x s' h => (GoodWG.laid (c := r.toRowW.claim) parts.1 inside (ident_freeW parts.2.1 parts.2.2.1 parts.2.2.2.1) L h).2.2) (walk w s now args vs as f ⟨⟨_, _, G1, nm ▸ isf⟩, seen, ⟨fit, lay⟩, L, L.low G.low⟩)
    have fine := GoodWG.laid (c := r.toRowW.claim) parts.1 inside (ident_freeW parts.2.1 parts.2.2.1 parts.2.2.2.1) L z
    rw [← eo] at fine
    have kept := namesKept_of ran main r.keeps old z.2.1.old
    rw [← eh] at kept
    have ends := fine.1.congr eh
    refine ⟨vs, now, rfl, k, _, s'', halts, ends.imp ?_ ?_, fun _ i y at_i => ?_, fun wr => ⟨kept, noTable nowr wr⟩, congrArg Life.seen (el.trans like.2.2.2), Shared.rest_eq fine.2.1⟩
    · rintro ⟨v, rfl, rest⟩
      exact ⟨v, rfl, rest.1, rest.2.1, rest.2.2.1, fun b o h _ => rest.2.2.2.1 b o h, rest.2.2.2.2⟩
    · rintro ⟨e, ob, cls, rfl, rest⟩
      exact ⟨e, ob, cls, rfl, rest.1, rest.2.1, rest.2.2.1, rest.2.2.2.1, fun b o h _ => rest.2.2.2.2 b o h⟩
    · rw [gens0] at at_i; simp at at_i
end Mine.Hd.PySem.W
end

section
open PySem PySem.W PySem.W.X PyProof.Rows
namespace Mine.Hd
local macro_rules | `(tactic| k_head) => `(tactic| z_head)
local macro_rules | `(tactic| o_law) => `(tactic| refine holds_law (by kernel_rfl) fun said => ?_)
open_top hd for PySem.Challenge.rw_qh0048_01
end Mine.Hd
end

section
open PySem PySem.W PySem.W.X PyProof.Rows PySem.Calls
namespace Mine
/-- what the top left, less the code tables -/
noncomputable def lk (P : Params) (a : Addr) : Obj := ((Hd.hd.heap_164 P).lookup a).getD default
noncomputable def K1 (P : Params) : Frag := (nat_lit 0, lk P 0) :: (nat_lit 1, lk P 1) :: (nat_lit 2, lk P 2) :: (nat_lit 3, lk P 3) :: (nat_lit 4, lk P 4) :: (nat_lit 5, lk P 5) :: (nat_lit 6, lk P 6) :: (nat_lit 7, lk P 7) :: (nat_lit 9, lk P 9) :: (nat_lit 10, lk P 10) :: (nat_lit 11, lk P 11) :: (nat_lit 13, lk P 13) :: (nat_lit 14, lk P 14) :: (nat_lit 15, lk P 15) :: (nat_lit 17, lk P 17) :: (nat_lit 18, lk P 18) :: (nat_lit 19, lk P 19) :: (nat_lit 20, lk P 20) :: (nat_lit 21, lk P 21) :: (nat_lit 22, lk P 22) :: (nat_lit 24, lk P 24) :: (nat_lit 25, lk P 25) :: (nat_lit 26, lk P 26) :: (nat_lit 27, lk P 27) :: (nat_lit 28, lk P 28) :: (nat_lit 29, lk P 29) :: (nat_lit 30, lk P 30) :: (nat_lit 32, lk P 32) :: (nat_lit 33, lk P 33) :: (nat_lit 34, lk P 34) :: (nat_lit 35, lk P 35) :: (nat_lit 36, lk P 36) :: (nat_lit 37, lk P 37) :: (nat_lit 44, lk P 44) :: (nat_lit 45, lk P 45) :: (nat_lit 46, lk P 46) :: (nat_lit 47, lk P 47) :: (nat_lit 50, lk P 50) :: (nat_lit 52, lk P 52) :: (nat_lit 53, lk P 53) :: (nat_lit 54, lk P 54) :: (nat_lit 55, lk P 55) :: (nat_lit 56, lk P 56) :: (nat_lit 57, lk P 57) :: (nat_lit 59, lk P 59) :: (nat_lit 60, lk P 60) :: (nat_lit 61, lk P 61) :: (nat_lit 62, lk P 62) :: (nat_lit 63, lk P 63) :: (nat_lit 64, lk P 64) :: (nat_lit 66, lk P 66) :: (nat_lit 67, lk P 67) :: (nat_lit 68, lk P 68) :: (nat_lit 69, lk P 69) :: (nat_lit 70, lk P 70) :: (nat_lit 71, lk P 71) :: (nat_lit 73, lk P 73) :: (nat_lit 74, lk P 74) :: (nat_lit 75, lk P 75) :: (nat_lit 76, lk P 76) :: (nat_lit 77, lk P 77) :: (nat_lit 78, lk P 78) :: (nat_lit 79, lk P 79) :: (nat_lit 81, lk P 81) :: (nat_lit 82, lk P 82) :: (nat_lit 83, lk P 83) :: (nat_lit 84, lk P 84) :: (nat_lit 85, lk P 85) :: (nat_lit 86, lk P 86) :: (nat_lit 87, lk P 87) :: (nat_lit 89, lk P 89) :: (nat_lit 90, lk P 90) :: (nat_lit 91, lk P 91) :: (nat_lit 92, lk P 92) :: (nat_lit 93, lk P 93) :: (nat_lit 94, lk P 94) :: (nat_lit 95, lk P 95) :: (nat_lit 97, lk P 97) :: (nat_lit 98, lk P 98) :: (nat_lit 99, lk P 99) :: (nat_lit 100, lk P 100) :: (nat_lit 101, lk P 101) :: (nat_lit 102, lk P 102) :: (nat_lit 103, lk P 103) :: (nat_lit 105, lk P 105) :: (nat_lit 106, lk P 106) :: (nat_lit 107, lk P 107) :: (nat_lit 108, lk P 108) :: (nat_lit 109, lk P 109) :: (nat_lit 110, lk P 110) :: (nat_lit 112, lk P 112) :: (nat_lit 113, lk P 113) :: (nat_lit 114, lk P 114) :: (nat_lit 115, lk P 115) :: (nat_lit 116, lk P 116) :: (nat_lit 117, lk P 117) :: (nat_lit 118, lk P 118) :: (nat_lit 119, lk P 119) :: (nat_lit 121, lk P 121) :: (nat_lit 122, lk P 122) :: (nat_lit 123, lk P 123) :: (nat_lit 124, lk P 124) :: (nat_lit 125, lk P 125) :: (nat_lit 126, lk P 126) :: (nat_lit 128, lk P 128) :: (nat_lit 129, lk P 129) :: (nat_lit 130, lk P 130) :: (nat_lit 131, lk P 131) :: (nat_lit 132, lk P 132) :: (nat_lit 133, lk P 133) :: (nat_lit 135, lk P 135) :: (nat_lit 136, lk P 136) :: (nat_lit 137, lk P 137) :: (nat_lit 138, lk P 138) :: (nat_lit 139, lk P 139) :: (nat_lit 140, lk P 140) :: (nat_lit 142, lk P 142) :: (nat_lit 143, lk P 143) :: (nat_lit 144, lk P 144) :: (nat_lit 145, lk P 145) :: (nat_lit 147, lk P 147) :: (nat_lit 148, lk P 148) :: (nat_lit 149, lk P 149) :: (nat_lit 150, lk P 150) :: (nat_lit 151, lk P 151) :: (nat_lit 152, lk P 152) :: (nat_lit 154, lk P 154) :: (nat_lit 155, lk P 155) :: (nat_lit 156, lk P 156) :: (nat_lit 157, lk P 157) :: (nat_lit 159, lk P 159) :: (nat_lit 160, lk P 160) :: (nat_lit 161, lk P 161) :: (nat_lit 162, lk P 162) :: (nat_lit 164, lk P 164) :: (nat_lit 165, lk P 165) :: (nat_lit 166, lk P 166) :: (nat_lit 167, lk P 167) :: (nat_lit 169, lk P 169) :: (nat_lit 170, lk P 170) :: (nat_lit 171, lk P 171) :: []

/-- the facts of the text's top that every contract asks of the heap -/
structure Cx (w : World) (h : Heap) : Prop where
  k : (K1 w.params).In h
  t : ∃ loose mean mg mb, Top topProg loose mean mg mb h
def Keep (h h' : Heap) : Prop := ∀ b o, h.get? b = some o → h'.get? b = some o
theorem Keep.refl (h : Heap) : Keep h h := fun _ _ e => e
theorem Keep.trans {h h' h'' : Heap} (a : Keep h h') (b : Keep h' h'') : Keep h h'' := fun x o e => b x o (a x o e)
theorem Cx.keeps {w : World} {h h' : Heap} (c : Cx w h) (k : Keep h h') : Cx w h' :=
  ⟨c.k.keeps k, let ⟨a, b, d, e, t⟩ := c.t; ⟨a, b, d, e, t.keeps k⟩⟩

/-- what is asked of the place of a call -/
structure OkA (A : Around) (d u : Nat) : Prop where
  handled : A.handled = none
  depth : A.depth ≤ d
  units : A.units ≤ u
  guards : A.guards = some []
  frames : ∃ l, A.frames = some l
theorem OkA.wp {α : Type} {M : Model} {A : Around} {d u : Nat} {t : Sem α} {Q : α → Shared → Prop} {E : Value → Shared → Prop} {s : Shared} (o : OkA A d u)
    (h : ∀ l, wpAny M ⟨none, d, some l, some [], u⟩ t Q E s) : wpAny M A t Q E s := by
  obtain ⟨l, hl⟩ := o.frames
  intro Γ p hΓ
  refine h l Γ p ⟨hΓ.1.trans o.handled, Nat.le_trans hΓ.2.1 o.depth, fun l' e => ?_, fun g e => ?_, Nat.le_trans hΓ.2.2.2.2 o.units⟩
  · cases e; exact hΓ.2.2.1 l hl
  · cases e; exact hΓ.2.2.2.1 [] o.guards
theorem OkA.mono {A : Around} {d u d' u' : Nat} (o : OkA A d u) (hd : d ≤ d') (hu : u ≤ u') : OkA A d' u' :=
  ⟨o.handled, Nat.le_trans o.depth hd, Nat.le_trans o.units hu, o.guards, o.frames⟩
theorem OkA.deeper {A : Around} {d u : Nat} {env : Env} (o : OkA A d u) : OkA (A.deeper env) (d + 1) (u + 3) :=
  ⟨o.handled, Nat.succ_le_succ o.depth, Nat.add_le_add_right o.units 3, o.guards, let ⟨l, e⟩ := o.frames; ⟨env :: l, by show A.frames.map _ = _; rw [e]; rfl⟩⟩
theorem OkA.in1 {A : Around} {d u : Nat} (o : OkA A d u) : OkA A.in1 d (u + 1) :=
  ⟨o.handled, o.depth, Nat.add_le_add_right o.units 1, o.guards, o.frames⟩

section
variable {w : World} {A : Around} {E : Value → Shared → Prop} {s : Shared} {Q : Value → Shared → Prop}
/-- a def of the top is entered (no captured names) -/
theorem enter {name qual : Str} {params : Arguments} {body : List Stmt} {scope : Scope} {dV kV doc pm cdv ct oc : Value} {an od : Option Addr} {osl : Array (Option Value)} {f : Addr} {pos : List Value} {kw : List (Str × Value)} {binds : List (Str × Value)}
    (C : Cx w s.heap) (ho : (K1 w.params).lookup f = some ⟨oc, od, .func (fnOf name qual params body scope dV kV doc pm an cdv ct), osl⟩) (hcd : codeIn (K1 w.params) cdv qual = true)
    (hroom : A.depth < recursionLimit) (hbind : BindsTo s (fnOf name qual params body scope dV kV doc pm an cdv ct) ⟨pos, kw⟩ binds) (hloc : ∀ y ∈ binds, scope.names.lookup y.1 = some .local)
    (hco : scope.isCoroutine = false) (hgen : scope.isGenerator = false) (hk : scope.kind = .function) (hcell : ∀ x ∈ scope.names, x.2 ≠ .cell)
    (h : ∀ g L h₁, Keep s.heap g → Keep g s.heap → Fr g L h₁ (fun y => binds.reverse.lookup y) → News g L h₁ [] → (K1 w.params).In g → (∃ loose mean mg mb, Top topProg loose mean mg mb g) →
      wpAny (model PySem.Challenge.rw_qh0048_01.row.prog w) (A.deeper (envOf qual scope L f cdv)) (execs body (envOf qual scope L f cdv))
        (fun fl s' => Q (match fl with | .ret v => v | _ => .none) s') (fun _ _ => False) { s with heap := h₁, toks := s.toks + binds.length }) :
    wpAny (model PySem.Challenge.rw_qh0048_01.row.prog w) A (call (.ref f) pos kw) Q E s := by
  obtain ⟨loose, mean, mg, mb, T⟩ := C.t
  refine wpAny_call (codeAny_call_def (fd := fnOf name qual params body scope dV kV doc pm an cdv ct) (body := body) (binds := binds) hroom (C.k _ _ ho) rfl T.nolimit (codeRec_of C.k hcd) rfl hbind hcell hloc (fun h₁ hns hk₁ => ?_) hco hgen hk)
  exact wpAny_mono (h s.heap s.heap.objs.size h₁ (Keep.refl _) (Keep.refl _) ⟨hns, hk₁, Nat.le_refl _⟩ News.nil C.k C.t) (fun _ _ x => x) fun _ _ x => x.elim
end
end Mine
namespace Mine
open PySem PySem.W PySem.W.X PyProof.Rows PySem.Calls
theorem norm_sa {α : Type} {M : Model} {A : Around} {t : Sem α} {Q : α → Shared → Prop} {E : Value → Shared → Prop} {h : Heap} {g : Array GenState} {d : Drawn} {o : OsState} {tk₀ : Nat} (H : ∀ tk, wpAny M A t Q E ⟨h, g, d, tk, o⟩) : wpAny M A t Q E ⟨h, g, d, tk₀, o⟩ := H _
theorem norm_sc {M : Model} {A : Around} {c : Code} {R : Result → Shared → Prop} {h : Heap} {g : Array GenState} {d : Drawn} {o : OsState} {tk₀ : Nat} (H : ∀ tk, codeAny M A c R ⟨h, g, d, tk, o⟩) : codeAny M A c R ⟨h, g, d, tk₀, o⟩ := H _
theorem cx_of {w : World} {g h : Heap} {L : Addr} {m : Str → Option Value} {loose : List Str} {mean : ExcName → Option Value} {mg mb : Str → Option Value}
    (F : Fr g L h m) (X : (K1 w.params).In g) (T : Top topProg loose mean mg mb g) : Cx w h := ⟨X.keeps F.keep, _, _, _, _, T.keeps F.keep⟩
theorem Fr.kept' {g h h' : Heap} {L : Addr} {m : Str → Option Value} (F : Fr g L h m) (k : Keep h h') : Fr g L h' m :=
  ⟨F.ns.keeps k, fun b o e => k b o (F.keep b o e), F.above⟩
theorem News.kept' {g h h' : Heap} {L : Addr} {news : List (Addr × Obj)} (N : News g L h news) (k : Keep h h') : News g L h' news :=
  fun p hp => ⟨k _ _ (N p hp).1, (N p hp).2⟩
theorem News.add' {g h h' : Heap} {L : Addr} {m : Str → Option Value} {news : List (Addr × Obj)} {a : Addr} {o : Obj} (F : Fr g L h m) (N : News g L h news) (k : Keep h h') (hn : h.get? a = none) (ho : h'.get? a = some o) :
    News g L h' ((a, o) :: news) := by
  intro p hp
  rcases List.mem_cons.mp hp with rfl | hp
  · refine ⟨ho, fun e => ?_, ?_⟩
    · obtain ⟨oL, _, _, hL, _⟩ := F.ns
      dsimp only at e
      rw [e, hL] at hn; cases hn
    · cases q : g.get? a with
      | none => rfl
      | some o' => have := F.keep _ _ q; rw [hn] at this; cases this
  · exact News.kept' N k p hp
section
variable {w : World} {A : Around} {E : Value → Shared → Prop} {s : Shared} {Q : Value → Shared → Prop}
/-- a def of the top is entered: its names stand in a new place -/
theorem enterP {name qual : Str} {params : Arguments} {body : List Stmt} {scope : Scope} {dV kV doc pm cdv ct oc : Value} {an od : Option Addr} {osl : Array (Option Value)} {f : Addr} {pos : List Value} {kw : List (Str × Value)} {binds : List (Str × Value)}
    (C : Cx w s.heap) (ho : (K1 w.params).lookup f = some ⟨oc, od, .func (fnOf name qual params body scope dV kV doc pm an cdv ct), osl⟩) (hcd : codeIn (K1 w.params) cdv qual = true)
    (hroom : A.depth < recursionLimit) (hbind : BindsTo s (fnOf name qual params body scope dV kV doc pm an cdv ct) ⟨pos, kw⟩ binds) (hloc : ∀ y ∈ binds, scope.names.lookup y.1 = some .local)
    (hco : scope.isCoroutine = false) (hgen : scope.isGenerator = false) (hk : scope.kind = .function) (hcell : ∀ x ∈ scope.names, x.2 ≠ .cell)
    (h : ∀ L h₁ tk, Keep s.heap h₁ → s.heap.get? L = none → h₁.Ns L (fun y => binds.reverse.lookup y) →
      wpAny (model PySem.Challenge.rw_qh0048_01.row.prog w) (A.deeper (envOf qual scope L f cdv)) (execs body (envOf qual scope L f cdv))
        (fun fl s' => Q (match fl with | .ret v => v | _ => .none) s') (fun _ _ => False) { s with heap := h₁, toks := tk }) :
    wpAny (model PySem.Challenge.rw_qh0048_01.row.prog w) A (call (.ref f) pos kw) Q E s := by
  refine enter C ho hcd hroom hbind hloc hco hgen hk hcell fun g L h₁ kg kb F N X T => ?_
  refine h L h₁ _ (kg.trans F.keep) ?_ F.ns
  cases e : s.heap.get? L with
  | none => rfl
  | some o => exact absurd (Nat.lt_of_lt_of_le (Heap.lt_size (kg _ _ e)) F.above) (Nat.lt_irrefl _)
end
end Mine
end

section
open PySem PySem.W PySem.W.X PyProof.Rows PySem.Calls
namespace Mine
local macro_rules | `(tactic| walk_at "my enter") => `(tactic| (
  refine' enter (by assumption) ?k6 ?k7 ?k8 ?k9 ?kB ?c2 ?c3 ?c4 ?c5 ?_; (case k6 => k_is); (case k7 => k_is); (case k8 => exact Nat.le_of_ble_eq_true rfl);
  (case k9 => exact BindsTo.of_eq rfl); (case kB => exact locs rfl); (case c2 => rfl); (case c3 => rfl); (case c4 => rfl); (case c5 => decide);
  intro g' L' h' kg' kb' F' N' X' T'; obtain ⟨_, _, _, _, T'⟩ := T'; (try dsimp only)))
def figure (x : Int) : Int := if 65 ≤ x ∧ x ≤ 90 then x - 65 else if 97 ≤ x ∧ x ≤ 122 then x - 71 else if 48 ≤ x ∧ x ≤ 57 then x + 4 else if x = 43 then 62 else 63
theorem fig_spec {w : World} {A : Around} {s : Shared} {Q E : Value → Shared → Prop} {x : Int} {t : Tok} (C : Cx w s.heap) (hA : OkA A 690 400)
    (h : ∀ h' tk t', Keep s.heap h' → Q (.int (figure x) t') { s with heap := h', toks := tk }) :
    wpAny (model PySem.Challenge.rw_qh0048_01.row.prog w) A (call (.ref 139) [.int x t]) Q E s := by
  refine hA.wp fun l => ?_
  have X := C.k
  revert X; k_fill; intro X
  w_on
  refine' enter (by assumption) ?k6 ?k7 ?k8 ?k9 ?kB ?c2 ?c3 ?c4 ?c5 ?_; (case k6 => k_is); (case k7 => k_is); (case k8 => exact Nat.le_of_ble_eq_true rfl);
  (case k9 => exact BindsTo.of_eq rfl); (case kB => exact locs rfl); (case c2 => rfl); (case c3 => rfl); (case c4 => rfl); (case c5 => decide);
  intro g' L' h' kg' kb' F' N' X' T'; obtain ⟨_, _, _, _, T'⟩ := T'; (try dsimp only)
  have fin : ∀ (y : Int) (h'' : Heap) (tk : Nat) (t' : Tok) (m : Str → Option Value), Fr g' L' h'' m → y = figure x → Q (.int y t') { s with heap := h'', toks := tk } :=
    fun y h'' tk t' m F e => e ▸ h h'' tk t' (kg'.trans F.keep)
  k_steps
  all_goals exact fin _ _ _ _ _ (by assumption) (by unfold figure; (repeat' split) <;> lia)
end Mine
end

section
open PySem PySem.W PySem.W.X PyProof.Rows PySem.Calls
namespace Mine
/-- a goal that the walk leaves alone -/
def Hold (p : Prop) : Prop := p
abbrev PR : Program := PySem.Challenge.rw_qh0048_01.row.prog
/-- a value that is walked: n items, the i-th is told by P -/
def SrcOk (w : World) (A : Around) (xv : Value) (s : Shared) (n : Nat) (P : Nat → Value → Prop) : Prop :=
  ∀ (Q : Value → Shared → Prop) (E : Value → Shared → Prop), (∀ I fp wr St (h₂ : Heap), Walks PySem.Challenge.rw_qh0048_01.row.prog w A I fp wr n P St → St 0 h₂ → (∀ b ∈ fp, b < h₂.objs.size) → (∀ b ∈ wr, s.heap.get? b = none) → Keep s.heap h₂ → s.heap.objs.size ≤ h₂.objs.size → Q (.ref I) { s with heap := h₂ }) →
    wpAny (model PySem.Challenge.rw_qh0048_01.row.prog w) A (pyIter xv) Q E s
/-- what the source of a comprehension must answer -/
inductive CompOk (w : World) (A : Around) (env : Env) (elt : Expr) (x : Str) (ifs : List Expr) (scope : Scope) (cl : List (Str × Addr)) (p : Value → Bool) (R : Value → Value → Prop) (Q : Value → Shared → Prop) (xv : Value) (s₁ : Shared) : Prop
  | mk (n : Nat) (P : Nat → Value → Prop) (hn : n ≤ sizeLine) (hsrc : SrcOk w A xv s₁ n P)
      (ht : ∀ C i v s₃ m₃ E', s₁.heap.objs.size ≤ C → P i v → s₃.heap.Ns C m₃ → m₃ x = some v → Keep s₁.heap s₃.heap →
        wpAny (model PySem.Challenge.rw_qh0048_01.row.prog w) A (forIn ifs true fun c r => if r = true then do let ok ← isTrue c (compEnvC scope cl C env) (eval c (compEnvC scope cl C env)); pure (ForInStep.yield ok) else pure (ForInStep.yield r))
          (fun ok s₄ => ok = p v ∧ Keeps s₃ s₄) E' s₃)
      (he : ∀ C i v s₃ m₃ E', s₁.heap.objs.size ≤ C → P i v → p v = true → s₃.heap.Ns C m₃ → m₃ x = some v → Keep s₁.heap s₃.heap →
        wpAny (model PySem.Challenge.rw_qh0048_01.row.prog w) A (eval elt (compEnvC scope cl C env)) (fun y s₄ => R v y ∧ Keeps s₃ s₄) E' s₃)
      (hQ : ∀ D h' tk ys (vs : List Value), s₁.heap.get? D = none → h'.PlainList D ys → vs.length = n → (∀ j v, vs[j]? = some v → P j v) → Paired R (vs.filter p) ys.toList → Keep s₁.heap h' → Q (.ref D) { s₁ with heap := h', toks := tk }) : CompOk w A env elt x ifs scope cl p R Q xv s₁
section
variable {w : World} {A : Around} {s : Shared}
theorem get_size_none (h : Heap) : h.get? h.objs.size = none := by
  cases e : h.get? h.objs.size with
  | none => rfl
  | some o => exact absurd (Heap.lt_size e) (Nat.lt_irrefl _)
theorem src_bytes (hh : A.handled = none) (b : Array UInt8) (t : Tok) : SrcOk w A (.bytes b t) s b.size (fun i v => ∃ c u, b[i]? = some c ∧ v = .int (c.toNat : Int) u) := by
  intro Q E h
  refine KBw.pyIter_bytes ?_
  refine h s.heap.objs.size [_] [_] _ _ (KBw.walks hh _ b t) ⟨_, Heap.get?_push_size _ rfl, rfl, rfl⟩ (fun b hb => ?_) (fun b hb => ?_) (fun b o e => Heap.get?_push_of_some _ e) ?_
  · rw [List.mem_singleton.mp hb, Heap.size_push]; exact Nat.lt_succ_self _
  · rw [List.mem_singleton.mp hb]; exact get_size_none _
  · rw [Heap.size_push]; exact Nat.le_succ _
theorem src_list (hh : A.handled = none) {l : Addr} {items : Array Value} (hl : s.heap.IsList l items) : SrcOk w A (.ref l) s items.size (fun i v => items[i]? = some v) := by
  intro Q E h
  have hlt : l < s.heap.objs.size := by obtain ⟨o, ho, _⟩ := hl; exact Heap.lt_size ho
  refine wpAny_pyIter_list hl ?_
  refine h s.heap.objs.size [_, l] [_] _ _ (Walks.list hh _ l (Nat.ne_of_lt hlt) items) ⟨⟨_, Heap.get?_push_size _ rfl, rfl, rfl⟩, ?_⟩ (fun b hb => ?_) (fun b hb => ?_) (fun b o e => Heap.get?_push_of_some _ e) ?_
  · obtain ⟨o, ho, r⟩ := hl; exact ⟨o, Heap.get?_push_of_some _ ho, r⟩
  · rw [Heap.size_push]
    rcases List.mem_cons.mp hb with rfl | hb
    · exact Nat.lt_succ_self _
    · rw [List.mem_singleton.mp hb]; exact Nat.lt_succ_of_lt hlt
  · rw [List.mem_singleton.mp hb]; exact get_size_none _
  · rw [Heap.size_push]; exact Nat.le_succ _
theorem src_range (hh : A.handled = none) {r : Addr} {a b c : Int} {t u v : Tok} (hr : IsRange s.heap r a b c t u v) (hs : Builtin.Range.small a b c = true) {n : Nat} (hn : Builtin.Range.rangeSize a b c = n) :
    SrcOk w A (.ref r) s n (fun i v => ∃ t, v = .int (a + i * c) t) := by
  intro Q E h
  refine wpAny_pyIter_range hr hs ?_
  refine h s.heap.objs.size [_] [_] _ _ (Walks.range hh _ a c n) ?_ (fun b hb => ?_) (fun b hb => ?_) (fun b o e => Heap.get?_push_of_some _ e) ?_
  · show IsRangeIter _ _ (a + ((0 : Nat) : Int) * c) ((n : Int) - ((0 : Nat) : Int)) c
    rw [show a + ((0 : Nat) : Int) * c = a by simp, show (n : Int) - ((0 : Nat) : Int) = n by simp, hn]
    exact Heap.get?_push_size _ rfl
  · rw [List.mem_singleton.mp hb, Heap.size_push]; exact Nat.lt_succ_self _
  · rw [List.mem_singleton.mp hb]; exact get_size_none _
  · rw [Heap.size_push]; exact Nat.le_succ _

/-- a list comprehension over one source -/
theorem comp_rule {s : Shared} {env : Env} {E : Value → Shared → Prop} {elt iter : Expr} {x : Str} {px : Pos} {ifs : List Expr} {scope : Scope} {cl : List (Str × Addr)} {pos : Pos} {Q : Value → Shared → Prop} (p : Value → Bool) (R : Value → Value → Prop)
    (hclos : closureFor scope env = pure cl) (hcell : ∀ y ∈ scope.names, y.2 ≠ .cell) (hkind : scope.kind = .function)
    (hnames : ∀ y ∈ scope.names, y.2 = .local → scope.names.lookup y.1 = some .local) (hx : scope.names.lookup x = some .local)
    (h : wpAny (model PySem.Challenge.rw_qh0048_01.row.prog w) A (eval iter env) (CompOk w A env elt x ifs scope cl p R Q) E s)
    (hs : ∀ x, foldedSetIterable iter env x = pure x) :
    wpAny (model PySem.Challenge.rw_qh0048_01.row.prog w) A (eval (.ListComp elt [⟨.Name x px, iter, ifs, 0⟩] scope pos) env) Q E s := by
  refine wpAny_ListComp_free p R hclos hcell hkind hnames hx (wpAny_mono h (fun xv s₁ h₁ => ?_) fun _ _ e => e) hs
  obtain ⟨n, P, hn, hsrc, ht, he, hQ⟩ := h₁
  refine hsrc _ _ fun I fp wr St h₂ W hst hfp hwr hk hsz => ?_
  have nw : ∀ {h' : Heap}, (∀ b o, b ∉ wr → h₂.get? b = some o → h'.get? b = some o) → Keep s₁.heap h' := fun hh b o e => hh b o (fun hb => by rw [hwr b hb] at e; cases e) (hk b o e)
  refine ⟨I, fp, wr, n, P, St, rfl, W, hn, hst, hfp, ⟨?_, ?_⟩, ?_⟩
  · intro C i v s₃ m₃ E' hC hP hns hm hkk _
    exact ht C i v s₃ m₃ E' (Nat.le_trans hsz hC) hP hns hm (nw hkk)
  · intro C i v s₃ m₃ E' hC hP hp hns hm hkk _
    exact he C i v s₃ m₃ E' (Nat.le_trans hsz hC) hP hp hns hm (nw hkk)
  · intro D h' tk ys vs hD _ hpl hlen hP hF hkk
    refine hQ D h' tk ys vs ?_ hpl hlen hP hF (nw hkk)
    cases q : s₁.heap.get? D with
    | none => rfl
    | some o => have := hk _ _ q; rw [show ({ s₁ with heap := h₂ } : Shared).heap.get? D = none from hD] at this; cases this
end
section
variable {w : World} {A : Around} {E Q : Value → Shared → Prop} {s : Shared} {env : Env}
inductive CutB (Q : Value → Shared → Prop) (o vl vu : Value) (s₃ : Shared) : Prop
  | mk (b : Array UInt8) (t : Tok) (lo hi : Option Int) (e : o = .bytes b t) (hz : b.size ≤ 1000) (pl : IsPart vl lo) (pu : IsPart vu hi) (hQ : ∀ h' tk t', Keep s₃.heap h' → Q (.bytes (KBy.picked b lo hi) t') { s₃ with heap := h', toks := tk }) : CutB Q o vl vu s₃
/-- three values, one after another -/
theorem mono3 {M : Model} {α β γ : Type} {x : Sem α} {y : Sem β} {z : Sem γ} {P R : α → β → γ → Shared → Prop} (hP : ∀ a b c s, P a b c s → R a b c s)
    (h : wpAny M A x (fun a s => wpAny M A y (fun b s => wpAny M A z (P a b) E s) E s) E s) : wpAny M A x (fun a s => wpAny M A y (fun b s => wpAny M A z (R a b) E s) E s) E s :=
  have id' : ∀ (e : Value) (s : Shared), E e s → E e s := fun _ _ => id
  wpAny_mono h (fun a _ h => wpAny_mono h (fun b _ h => wpAny_mono h (fun c _ => hP a b c _) id') id') id'
/-- a cut of bytes -/
theorem bslice_rule {value : Expr} {lower upper : Option Expr} {p pos : Pos}
    (h : wpAny (model PySem.Challenge.rw_qh0048_01.row.prog w) A (eval value env) (fun o s₁ => wpAny (model PySem.Challenge.rw_qh0048_01.row.prog w) A (evalPart lower env) (fun vl s₂ => wpAny (model PySem.Challenge.rw_qh0048_01.row.prog w) A (evalPart upper env) (CutB Q o vl) E s₂) E s₁) E s)
    (ht : ∀ o r, letTemporaryGo value o r = pure () := by intro _ _; rfl) :
    wpAny (model PySem.Challenge.rw_qh0048_01.row.prog w) A (eval (.Subscript value (.Slice lower upper none p) pos) env) Q E s := by
  refine wpAny_Subscript_Slice (T := "bytes") FB.slot_bytes_getitem.lookup (wpAny_mono (mono3 (P := CutB Q) ?_ h) (fun _ _ k => wpAny_Slice k) fun _ _ => id) ht
  rintro _ vl vu s₃ ⟨b, t, lo, hi, rfl, hz, pl, pu, hQ⟩
  rw [evalPart_none]
  refine wpAny_pure ⟨typeIs_bytes _ _ _, ?_⟩
  refine getItem_meets (typeIs_bytes _ _ _) (by decide) FB.slot_bytes_getitem FB.entry_bytes_getitem (FB.args_bytes_getitem_2 _ _) (KBc.meets_slice2 b t _ pl pu) ?_
  refine ⟨Heap.IsSliceOf.new _ _ _ _, Nat.le_trans (KBc.size_picked_le b lo hi) (by rw [sizeLine_eq]; lia), fun t' k => ?_⟩
  exact hQ _ _ _ fun b o e => Heap.get?_push_of_some _ e
end
end Mine
end

section
open PySem PySem.W PySem.W.X PyProof.Rows PySem.Calls
namespace Mine
section
variable {w : World} {A : Around} {E : Value → Shared → Prop} {s : Shared} {Q : Value → Shared → Prop} {env : Env} {x : Str} {pos : Pos} {v : Value}
theorem nm_loc {m : Str → Option Value} (hns : s.heap.Ns env.locals m) (hm : m x = some v) (h : Q v s) (hk : env.scope.kind = .function := by (first | kernel_rfl | rfl)) (hx : env.kindOf x = some .local := by (first | kernel_rfl | rfl))
    (hd : (x == ("__debug__" : Str)) = false := by (first | kernel_rfl | decide)) : wpAny (model PySem.Challenge.rw_qh0048_01.row.prog w) A (eval (.Name x pos) env) Q E s := wpAny_Name (wpAny_loadName_local hk hx hns hm h) hd
theorem nm_glob (C : Cx w s.heap) (e : nsIn (K1 w.params) mainGlobals x = some (some v)) (h : Q v s) (hk : env.scope.kind = .function := by (first | kernel_rfl | rfl)) (hx : env.kindOf x = some .globalImplicit := by (first | kernel_rfl | rfl)) (hg : env.globals = mainGlobals := by (first | kernel_rfl | rfl))
    (hd : (x == ("__debug__" : Str)) = false := by (first | kernel_rfl | decide)) : wpAny (model PySem.Challenge.rw_qh0048_01.row.prog w) A (eval (.Name x pos) env) Q E s := by
  obtain ⟨_, _, mg, mb, T⟩ := C.t
  exact Name_function_global hk hx (loadGlobal_global (by rw [hg]; exact T.g) (mg_of C.k T.g e) h) hd
theorem nm_bi (C : Cx w s.heap) (e : nsIn (K1 w.params) mainGlobals x = some none) (hv : bootBuiltins x = some v) (hn : x ≠ "__name__") (h : Q v s) (hk : env.scope.kind = .function := by (first | kernel_rfl | rfl)) (hx : env.kindOf x = some .globalImplicit := by (first | kernel_rfl | rfl)) (hg : env.globals = mainGlobals := by (first | kernel_rfl | rfl)) (hb : env.builtins = builtinsNs := by (first | kernel_rfl | rfl))
    (hd : (x == ("__debug__" : Str)) = false := by (first | kernel_rfl | decide)) : wpAny (model PySem.Challenge.rw_qh0048_01.row.prog w) A (eval (.Name x pos) env) Q E s := by
  obtain ⟨_, _, mg, mb, T⟩ := C.t
  exact Name_function_global hk hx (loadGlobal_builtin (by rw [hg]; exact T.g) (mg_none_of C.k T.g e) (by rw [hb]; exact T.b) ((T.builtins x hn).trans hv) h) hd
theorem nm_cell {c : Addr} (hc : env.cells.lookup x = some c) (hv : s.heap.IsCell c (some v)) (h : Q v s) (hk : env.scope.kind = .function := by (first | kernel_rfl | rfl)) (hx : env.kindOf x = some .cell := by (first | kernel_rfl | rfl))
    (hd : (x == ("__debug__" : Str)) = false := by (first | kernel_rfl | decide)) : wpAny (model PySem.Challenge.rw_qh0048_01.row.prog w) A (eval (.Name x pos) env) Q E s := wpAny_Name (wpAny_loadName_cell hk hx hc hv h) hd
theorem nm_free {c : Addr} (hc : env.cells.lookup x = some c) (hv : s.heap.IsCell c (some v)) (h : Q v s) (hk : env.scope.kind = .function := by (first | kernel_rfl | rfl)) (hx : env.kindOf x = some .free := by (first | kernel_rfl | rfl))
    (hd : (x == ("__debug__" : Str)) = false := by (first | kernel_rfl | decide)) (hn : (x == ("__classdict__" : Str)) = false := by decide) : wpAny (model PySem.Challenge.rw_qh0048_01.row.prog w) A (eval (.Name x pos) env) Q E s := wpAny_Name (wpAny_loadName_free hk hx hc hv h hn) hd
/-- a call of one of the top's defs by its name -/
theorem call_fn {p : Pos} {a : Addr} {e : Expr} {rest : List Expr} (C : Cx w s.heap) (e1 : nsIn (K1 w.params) mainGlobals x = some (some (.ref a))) (hkp : keepIn (K1 w.params) (.ref a) = true)
    (h : wpAny (model PySem.Challenge.rw_qh0048_01.row.prog w) A (spliced (backTo pos (starEach (e :: rest) env))) (fun vs s₁ => (K1 w.params).In s₁.heap ∧ wpAny (model PySem.Challenge.rw_qh0048_01.row.prog w) A (call (.ref a) vs) Q E s₁) E s)
    (hk : env.scope.kind = .function := by (first | kernel_rfl | rfl)) (hx : env.kindOf x = some .globalImplicit := by (first | kernel_rfl | rfl)) (hg : env.globals = mainGlobals := by (first | kernel_rfl | rfl))
    (hd : (x == ("__debug__" : Str)) = false := by (first | kernel_rfl | decide)) (he : starEach (e :: rest) env = (false, eval e env) :: starEach rest env := by (first | kernel_rfl | rfl)) (hplain : (backTo pos (starEach rest env)).any (·.1) = false := by (first | kernel_rfl | rfl)) :
    wpAny (model PySem.Challenge.rw_qh0048_01.row.prog w) A (eval (.Call (.Name x p) (e :: rest) [] pos) env) Q E s :=
  wpAny_Call_NameR (nm_glob C e1 (callWith_K C.k hkp h he hplain) hk hx hg hd)
end
end Mine
end

section
open PySem PySem.W PySem.W.X PyProof.Rows PySem.Calls
namespace Mine
theorem paired_get {F : Value → Value → Prop} {l₁ l₂ : List Value} (h : Paired F l₁ l₂) : ∀ (j : Nat) (v : Value), l₁[j]? = some v → ∃ y, l₂[j]? = some y ∧ F v y := by
  induction h with
  | nil => intro j v e; rw [List.getElem?_nil] at e; cases e
  | cons h _ ih =>
    intro j v e
    cases j with
    | zero => rw [List.getElem?_cons_zero] at e; cases e; exact ⟨_, rfl, h⟩
    | succ j => exact ih j v e
theorem len3 {l : List Value} (h : l.length = 3) : ∃ a b c, l = [a, b, c] := by
  rcases l with _ | ⟨a, _ | ⟨b, _ | ⟨c, _ | ⟨d, l⟩⟩⟩⟩
  · cases h
  · cases h
  · cases h
  · exact ⟨a, b, c, rfl⟩
  · simp at h
theorem al_of' {h h' : Heap} (k : Keep h h') {a : Addr} (e : h'.get? a = none) : h.get? a = none := by
  cases q : h.get? a with
  | none => rfl
  | some o => rw [k _ _ q] at e; cases e
theorem rank_tail {x0 x1 x2 x3 : UInt8} {vs : List Value} {ys : Array Value} (hlen : vs.length = (KBy.picked #[x0, x1, x2, x3] (some 1) none).size) (hP : ∀ (j : Nat) (v : Value), vs[j]? = some v → ∃ c u, (KBy.picked #[x0, x1, x2, x3] (some 1) none)[j]? = some c ∧ v = .int (c.toNat : Int) u)
    (hF : Paired (fun v y : Value => ∃ n t t', v = .int n t ∧ y = .int (figure n) t') (vs.filter fun _ => true) ys.toList) : ∃ t1 t2 t3, ys = #[.int (figure x1.toNat) t1, .int (figure x2.toNat) t2, .int (figure x3.toNat) t3] := by
  rw [show KBy.picked #[x0, x1, x2, x3] (some 1) none = #[x1, x2, x3] from by rw [KBc.picked_eq]; rfl] at hlen hP
  rw [List.filter_eq_self.mpr (fun _ _ => rfl)] at hF
  have hl := hF.length
  obtain ⟨v1, v2, v3, rfl⟩ := len3 hlen
  obtain ⟨y1, y2, y3, ey⟩ := len3 (hl.symm.trans hlen)
  have one : ∀ (j : Nat) (v y : Value) (c : UInt8), [v1, v2, v3][j]? = some v → ys.toList[j]? = some y → #[x1, x2, x3][j]? = some c → ∃ t, y = .int (figure c.toNat) t := fun j v y c e1 e2 e3 => by
    obtain ⟨c', u, e4, rfl⟩ := hP j v e1
    obtain ⟨y', e5, n, t, t', e6, rfl⟩ := paired_get hF j _ e1
    rw [e2] at e5
    rw [e3] at e4
    cases e5
    cases e4
    injection e6 with e6
    subst e6
    exact ⟨t', rfl⟩
  obtain ⟨t1, rfl⟩ := one 0 _ y1 x1 rfl (by rw [ey]; rfl) rfl
  obtain ⟨t2, rfl⟩ := one 1 _ y2 x2 rfl (by rw [ey]; rfl) rfl
  obtain ⟨t3, rfl⟩ := one 2 _ y3 x3 rfl (by rw [ey]; rfl) rfl
  exact ⟨t1, t2, t3, Array.toList_inj.mp ey⟩
theorem rank_end {w : World} {A : Around} {s : Shared} {Q E : Value → Shared → Prop} {D1 D : Addr} {ys : Array Value} {a : Value} {v1 v2 v3 : Tok → Value} (o1 : s.heap.get? D1 = some { cls := .type "list", data := .seq #[a] }) (hpl : s.heap.PlainList D ys) (hy : ∃ t1 t2 t3, ys = #[v1 t1, v2 t2, v3 t3])
    (K : ∀ t1 t2 t3 r n h', Keep s.heap h' → s.heap.get? r = none → h'.get? r = some (listOf #[a, v1 t1, v2 t2, v3 t3] n) → Q (.ref r) { s with heap := h' }) :
    wpAny (model PySem.Challenge.rw_qh0048_01.row.prog w) A (binaryOp .Add (.ref D1) (.ref D)) Q E s := by
  obtain ⟨t1, t2, t3, rfl⟩ := hy
  obtain ⟨nD, hpl⟩ := hpl
  exact PySem.P.add_list o1 hpl (K _ _ _ _ _ _ (fun b o e => Heap.get?_push_of_some _ e) (get_size_none _) (Heap.get?_push_size _ rfl)) (Nat.le_of_ble_eq_true rfl)
theorem rank_spec {w : World} {A : Around} {s : Shared} {Q E : Value → Shared → Prop} {x0 x1 x2 x3 : UInt8} {t : Tok} (C : Cx w s.heap) (hA : OkA A 680 380)
    (h : ∀ h' tk r n t0 t1 t2 t3, Keep s.heap h' → s.heap.get? r = none → h'.get? r = some (listOf #[.int (Int.fmod (figure x0.toNat + 32) 64) t0, .int (figure x1.toNat) t1, .int (figure x2.toNat) t2, .int (figure x3.toNat) t3] n) → Q (.ref r) { s with heap := h', toks := tk }) :
    wpAny (model PySem.Challenge.rw_qh0048_01.row.prog w) A (call (.ref 144) [.bytes #[x0, x1, x2, x3] t]) Q E s := by
  refine enterP (binds := [(Str.ofString "piece", .bytes #[x0, x1, x2, x3] t)]) C rfl (by kernel_rfl) (Nat.lt_of_le_of_lt hA.depth (Nat.le_of_ble_eq_true rfl)) (BindsTo.of_eq rfl) (locs (by kernel_rfl)) rfl rfl rfl (by decide) fun L h₁ tk k₁ fL ns => ?_
  have X₁ : Cx w h₁ := C.keeps k₁
  refine wpAny_execs_cons (wpAny_Return_some (wpAny_BinOp (wpAny_List_spliced ?_)))
  refine spliced_more (wpAny_BinOp (wpAny_BinOp (call_fn (a := 139) X₁ (by kernel_rfl) (by kernel_rfl) ?_ (by kernel_rfl) (by kernel_rfl) (by kernel_rfl) (by kernel_rfl))))
  refine spliced_more (PyProof.Rows.Subscript_ (nm_loc ns (v := .bytes #[x0, x1, x2, x3] t) (by kernel_rfl) (wpAny_Constant_int ?_)))
  refine KBy.item_N (x := [x0, x1, x2, x3]) (i := 0) (by simp) (by decide) (by simp) ?_
  refine spliced_none ⟨X₁.k, ?_⟩
  refine fig_spec (s := ⟨h₁, _, _, _, _⟩) X₁ (hA.deeper.mono (Nat.le_of_ble_eq_true rfl) (Nat.le_of_ble_eq_true rfl)) fun h₂ tk₂ t₂ k₂ => ?_
  refine wpAny_Constant_int (PyProof.Rows.add_int (wpAny_Constant_int (PyProof.Rows.mod_int (by decide) ?_)))
  refine spliced_none ⟨by rw [sizeLine_eq]; exact Nat.le_of_ble_eq_true rfl, ?_⟩
  have X₂ : Cx w h₂ := X₁.keeps k₂
  refine comp_rule (cl := []) (fun _ => true) (fun v y => ∃ n t t', v = .int n t ∧ y = .int (figure n) t') (by kernel_rfl) (by decide) rfl (by decide) rfl ?_ (fun _ => rfl)
  refine bslice_rule (nm_loc ((ns.keeps k₂).push _) (v := .bytes #[x0, x1, x2, x3] t) (by kernel_rfl) ?_)
  refine evalPart_some_step (wpAny_Constant_int ?_)
  refine wpAny_pure ⟨_, _, _, _, rfl, Nat.le_of_ble_eq_true rfl, .int _ _, .none, fun h₃ tk₃ t₃ k₃ => ?_⟩
  have kp : Keep s.heap h₃ := fun b o e => k₃ _ _ (Heap.get?_push_of_some _ (k₂ _ _ (k₁ _ _ e)))
  have hC : Cx w h₃ := C.keeps kp
  refine ⟨_, _, ?_, src_bytes (A := A.deeper _) hA.handled _ _, ?_, ?_, ?_⟩
  · exact Nat.le_trans (KBc.size_picked_le _ _ _) (by rw [sizeLine_eq]; exact Nat.le_of_ble_eq_true rfl)
  · intro C i v s₃ m₃ E' _ _ _ _ _
    exact wpAny_tests_nil ⟨rfl, _, _, rfl, fun _ _ e => e⟩
  · rintro C' i v s₃ m₃ E' hCC ⟨c, u, hc, rfl⟩ - hns hm hk
    have hC3 : Cx w s₃.heap := hC.keeps hk
    refine call_fn (a := 139) hC3 (by kernel_rfl) (by kernel_rfl) ?_ (by kernel_rfl) (by kernel_rfl) (by kernel_rfl) (by kernel_rfl)
    refine spliced_more (nm_loc hns hm ?_)
    refine spliced_none ⟨hC3.k, ?_⟩
    refine fig_spec hC3 (hA.deeper.mono (Nat.le_of_ble_eq_true rfl) (Nat.le_of_ble_eq_true rfl)) ?_
    intro h' tk' t' k'
    exact ⟨⟨_, _, _, rfl, rfl⟩, _, _, rfl, k'⟩
  · intro D h' tk' ys vs hD hpl hlen hP hF hk
    refine rank_end (hk _ _ (k₃ _ _ (Heap.get?_push_size (h := h₂) (o := { cls := .type "list", data := .seq _ }) rfl))) hpl (rank_tail hlen hP hF) fun t1 t2 t3 r n h₅ k₅ f₅ o₅ => ?_
    exact h _ _ _ _ _ _ _ _ (kp.trans (Keep.trans hk k₅)) (al_of' (kp.trans hk) f₅) o₅
end Mine
end

section
open PySem PySem.W PySem.W.X PyProof.Rows PySem.Calls
namespace Mine
/-- four ints, from the first on -/
def Lex4 (p0 p1 p2 p3 q0 q1 q2 q3 : Int) : Prop := p0 < q0 ∨ (p0 = q0 ∧ (p1 < q1 ∨ (p1 = q1 ∧ (p2 < q2 ∨ (p2 = q2 ∧ p3 < q3)))))
local macro_rules | `(tactic| x_close) => `(tactic| (refine ⟨_, rfl, ?_, _, rfl⟩; unfold Lex4; first | (simp only [true_iff]; lia) | (simp only [Bool.false_eq_true, false_iff]; lia)))
theorem lt_call {prog : Program} (hprog : prog = PySem.Challenge.rw_qh0048_01.row.prog) {w : World} {s : Shared} {l : List Env} {E : Value → Shared → Prop} {a b : Addr} {na nb : Nat} {p0 p1 p2 p3 q0 q1 q2 q3 : Int} {t0 t1 t2 t3 u0 u1 u2 u3 : Tok}
    (X : (K1 w.params).In s.heap)
    (ha : s.heap.get? a = some ⟨.type "list", none, .seq #[.int p0 t0, .int p1 t1, .int p2 t2, .int p3 t3] na, #[]⟩)
    (hb : s.heap.get? b = some ⟨.type "list", none, .seq #[.int q0 u0, .int q1 u1, .int q2 u2, .int q3 u3] nb, #[]⟩) :
    wpAny (model prog w) ⟨none, 680, some l, some [], 400⟩ (call (.builtin "list.__lt__") [.ref a, .ref b])
      (fun v s' => ∃ r, v = .bool r ∧ (r = true ↔ Lex4 p0 p1 p2 p3 q0 q1 q2 q3) ∧ ∃ tk, s' = { s with toks := tk }) E s := by
  revert X hprog; k_fill; intro hprog X; clear hprog
  x_run
end Mine
namespace Mine
open PySem PySem.W PySem.W.X PyProof.Rows PySem.Calls
theorem lt_rule {w : World} {A : Around} {s : Shared} {Q E : Value → Shared → Prop} {a b : Addr} {na nb : Nat} {p0 p1 p2 p3 q0 q1 q2 q3 : Int} {t0 t1 t2 t3 u0 u1 u2 u3 : Tok}
    (hA : OkA A 680 400) (C : Cx w s.heap)
    (ha : s.heap.get? a = some (listOf #[.int p0 t0, .int p1 t1, .int p2 t2, .int p3 t3] na))
    (hb : s.heap.get? b = some (listOf #[.int q0 u0, .int q1 u1, .int q2 u2, .int q3 u3] nb))
    (h : ∀ r tk, (r = true ↔ Lex4 p0 p1 p2 p3 q0 q1 q2 q3) → Q (.bool r) { s with toks := tk }) :
    wpAny (model PySem.Challenge.rw_qh0048_01.row.prog w) A (compareOp .Lt (.ref a) (.ref b)) Q E s := by
  refine cmp_ofLt (wpAny_richCompare_same_room (T := "list") ⟨_, ha, rfl⟩ ⟨_, hb, rfl⟩ F.slot_list_lt ?_ (Nat.lt_of_le_of_lt hA.units (Nat.le_of_ble_eq_true rfl)))
  refine hA.wp fun l => wpAny_mono (lt_call (E := E) rfl C.k ha hb) (fun v s' x => ?_) fun _ _ e => e
  obtain ⟨r, rfl, hr, tk, rfl⟩ := x
  exact ⟨fun e => (nomatch e), h r tk hr⟩
end Mine
end

section
open PySem PySem.W PySem.W.X PyProof.Rows PySem.Calls
namespace Mine
/-- one piece of four signs lies below another -/
def Below4 (x0 x1 x2 x3 y0 y1 y2 y3 : UInt8) : Prop :=
  Lex4 (Int.fmod (figure x0.toNat + 32) 64) (figure x1.toNat) (figure x2.toNat) (figure x3.toNat) (Int.fmod (figure y0.toNat + 32) 64) (figure y1.toNat) (figure y2.toNat) (figure y3.toNat)
local macro_rules | `(tactic| walk_at "call ref") => `(tactic| (
  (with_reducible show wpAny _ _ (call (Value.ref 144) _) _ _ _)
  refine' rank_spec ?c ?o ?_; (case c => exact cx_of (by k_asm) (by k_asm) (by k_asm)); (case o => exact ⟨rfl, Nat.le_of_ble_eq_true rfl, Nat.le_of_ble_eq_true rfl, rfl, ⟨_, rfl⟩⟩)
  intro h' tk' r' n' t0' t1' t2' t3' k' hn' hr'; (have N' := News.add' (by k_asm) (by k_asm) k' hn' hr'); (have F' := Fr.kept' (by k_asm) k'); (try dsimp only); (try k_sweep)))
local macro_rules | `(tactic| walk_at "compareOp Lt ref ref") => `(tactic| (
  refine' lt_rule ?o ?c ?a ?b ?_; (case o => exact ⟨rfl, Nat.le_of_ble_eq_true rfl, Nat.le_of_ble_eq_true rfl, rfl, ⟨_, rfl⟩⟩); (case c => exact cx_of (by k_asm) (by k_asm) (by k_asm));
  (case a => exact News.get (by k_asm) (by k_mem)); (case b => exact News.get (by k_asm) (by k_mem)); intro r' tk' hr'; (try dsimp only)))
theorem cmp_spec {w : World} {A : Around} {s : Shared} {Q E : Value → Shared → Prop} {x0 x1 x2 x3 y0 y1 y2 y3 : UInt8} {t u : Tok} (C : Cx w s.heap) (hA : OkA A 670 370)
    (h : ∀ h' tk c t', Keep s.heap h' → (c < 0 ↔ Below4 x0 x1 x2 x3 y0 y1 y2 y3) → Q (.int c t') { s with heap := h', toks := tk }) :
    wpAny (model PySem.Challenge.rw_qh0048_01.row.prog w) A (call (.ref 151) [.bytes #[x0, x1, x2, x3] t, .bytes #[y0, y1, y2, y3] u]) Q E s := by
  refine hA.wp fun l => ?_
  have X := C.k
  revert X; k_fill; intro X
  w_on
  refine' enter (by assumption) ?k6 ?k7 ?k8 ?k9 ?kB ?c2 ?c3 ?c4 ?c5 ?_; (case k6 => k_is); (case k7 => k_is); (case k8 => exact Nat.le_of_ble_eq_true rfl);
  (case k9 => exact BindsTo.of_eq rfl); (case kB => exact locs rfl); (case c2 => rfl); (case c3 => rfl); (case c4 => rfl); (case c5 => decide);
  intro g' L' h' kg' kb' F' N' X' T'; obtain ⟨_, _, _, _, T'⟩ := T'; (try dsimp only)
  have fin : ∀ (y : Int) (h'' : Heap) (tk : Nat) (t' : Tok) (m : Str → Option Value), Fr g' L' h'' m → (y < 0 ↔ Below4 x0 x1 x2 x3 y0 y1 y2 y3) → Q (.int y t') { s with heap := h'', toks := tk } :=
    fun y h'' tk t' m F e => h h'' tk y t' (kg'.trans F.keep) e
  k_steps
  all_goals (try dsimp only)
  · rename _ = _ => e
    simp only [List.cons.injEq, and_true] at e
    obtain ⟨e0, e1, e2, e3⟩ := e
    refine fin _ _ _ _ _ (by assumption) ?_
    unfold Below4 Lex4
    rw [e0, e1, e2, e3]
    constructor
    · intro h; lia
    · intro h; lia
  · rename (_ ↔ _) => e
    rename _ = true => e'
    exact fin _ _ _ _ _ (by assumption) ⟨fun _ => e.mp e', fun _ => by decide⟩
  · rename (_ ↔ _) => e
    rename _ = false => e'
    exact fin _ _ _ _ _ (by assumption) ⟨fun q => absurd q (by decide), fun q => by rw [e.mpr q] at e'; cases e'⟩
end Mine
end

section
open PySem PySem.W PySem.W.X PyProof.Rows PySem.Calls
namespace Mine
/-- a code object as the model lays it -/
def codeObj (nm qn : Str) (ln argc flags : Int) (fv : Value) (tb : Addr) (v12 v13 v14 v15 : Value) (n16 : Int) (t0 t1 t2 t18 : Tok) : Obj :=
  ⟨.type "code", none, .fields #[.str nm t0, .str qn t1, .str (⟨#[47, 99, 108, 97, 105, 109, 47, 99, 117, 116, 46, 112, 121]⟩ : Str) t2, .int ln 0, .int argc 0, .int 0 0, .int 0 0, .int flags 0, fv, .bool true, .int 181 0, .ref tb, v12, v13, v14, v15, .int n16 0, .int ln 0, .str (⟨#[47, 99, 108, 97, 105, 109, 47, 99, 117, 116, 46, 112, 121]⟩ : Str) t18], #[]⟩
def nmK : Str := (⟨#[75]⟩ : Str)
def qnK : Str := (⟨#[99, 109, 112, 95, 116, 111, 95, 107, 101, 121, 46, 60, 108, 111, 99, 97, 108, 115, 62, 46, 75]⟩ : Str)
def nmInit : Str := (⟨#[95, 95, 105, 110, 105, 116, 95, 95]⟩ : Str)
def qnInit : Str := (⟨#[99, 109, 112, 95, 116, 111, 95, 107, 101, 121, 46, 60, 108, 111, 99, 97, 108, 115, 62, 46, 75, 46, 95, 95, 105, 110, 105, 116, 95, 95]⟩ : Str)
def nmLt : Str := (⟨#[95, 95, 108, 116, 95, 95]⟩ : Str)
def qnLt : Str := (⟨#[99, 109, 112, 95, 116, 111, 95, 107, 101, 121, 46, 60, 108, 111, 99, 97, 108, 115, 62, 46, 75, 46, 95, 95, 108, 116, 95, 95]⟩ : Str)
def nmObj : Str := (⟨#[111, 98, 106]⟩ : Str)
def nmCmp : Str := (⟨#[109, 121, 99, 109, 112]⟩ : Str)
/-- the class's own dict -/
def nsObj (h1 h2 h3 h4 h5 h6 h7 h8 h9 h10 h11 h12 h13 : Int) (t1 t2 t3 t4 t5 t6 t7 t8 t9 t10 t11 t12 t13 : Tok) (v1 v2 v3 v4 v5 v6 v7 v8 : Value) (fi fl p : Addr) (n : Nat) : Obj :=
  ⟨.type "dict", none, .dict #[⟨h1, .str (⟨#[95, 95, 109, 111, 100, 117, 108, 101, 95, 95]⟩ : Str) t1, v1⟩, ⟨h2, .str (⟨#[95, 95, 102, 105, 114, 115, 116, 108, 105, 110, 101, 110, 111, 95, 95]⟩ : Str) t2, v2⟩, ⟨h3, .str (⟨#[95, 95, 115, 108, 111, 116, 115, 95, 95]⟩ : Str) t3, v3⟩, ⟨h4, .str (⟨#[95, 95, 105, 110, 105, 116, 95, 95]⟩ : Str) t4, .ref fi⟩, ⟨h5, .str (⟨#[95, 95, 108, 116, 95, 95]⟩ : Str) t5, .ref fl⟩, ⟨h6, .str (⟨#[95, 95, 103, 116, 95, 95]⟩ : Str) t6, v4⟩, ⟨h7, .str (⟨#[95, 95, 101, 113, 95, 95]⟩ : Str) t7, v5⟩, ⟨h8, .str (⟨#[95, 95, 108, 101, 95, 95]⟩ : Str) t8, v6⟩, ⟨h9, .str (⟨#[95, 95, 103, 101, 95, 95]⟩ : Str) t9, v7⟩, ⟨h10, .str (⟨#[95, 95, 104, 97, 115, 104, 95, 95]⟩ : Str) t10, .none⟩, ⟨h11, .str (⟨#[95, 95, 115, 116, 97, 116, 105, 99, 95, 97, 116, 116, 114, 105, 98, 117, 116, 101, 115, 95, 95]⟩ : Str) t11, v8⟩, ⟨h12, .str (⟨#[111, 98, 106]⟩ : Str) t12, .ref p⟩, ⟨h13, .str (⟨#[95, 95, 100, 111, 99, 95, 95]⟩ : Str) t13, .none⟩] n, #[]⟩
/-- the class -/
def clsObj (C N T : Addr) (t1 t2 : Tok) : Obj :=
  ⟨.type "type", none, .cls { name := nmK, bases := [.type "object"], mro := [.ref C, .type "object"], ns := N, qualname := qnK, hasDict := false, slotNames := [nmObj] }, #[some (.ref T), none, some (.str nmK t1), some (.str qnK t2), some (.builtin "object.__new__"), some (.bool false)]⟩
/-- its slot's descriptor -/
def dscObj (C : Addr) (t : Tok) : Obj := ⟨.type "member_descriptor", none, .fields #[.str nmObj t, .ref C, .builtin "proto.slot", .builtin "proto.slot#set", .int 0 0], #[]⟩
def stParams : Stmt → Arguments | .FunctionDef _ a _ _ _ _ _ _ _ _ => a | _ => default
def stBody : Stmt → List Stmt | .FunctionDef _ _ b _ _ _ _ _ _ _ => b | .ClassDef _ _ _ b _ _ _ _ _ _ _ => b | _ => []
def stScope : Stmt → Scope | .FunctionDef _ _ _ _ _ _ s _ _ _ => s | _ => default
def ctkStmt : Stmt := PySem.Challenge.pw_qh0048_01.main.body.getD 19 default
def kStmt (i : Nat) : Stmt := (stBody ((stBody ctkStmt).getD 0 default)).getD i default
/-- a method of the class -/
def fnObj (i : Nat) (nm qn : Str) (cl : List (Str × Addr)) (pm : Value) (c : Addr) (ct : Value) : Obj :=
  ⟨.type "function", none, .func { name := nm, qualname := qn, params := stParams (kStmt i), body := .stmts (stBody (kStmt i)), scope := stScope (kStmt i), globals := 3, closure := cl, defaults := .none, kwdefaults := .none, doc := .none, pyModule := pm, annotations := none, code := .ref c, closureTuple := ct, builtins := 0 }, #[]⟩
def cellObj (v : Value) : Obj := ⟨.type "cell", none, .cell (some v), #[]⟩
end Mine
end

section
open PySem PySem.W PySem.W.X PyProof.Rows PySem.Calls
namespace Mine
local macro_rules | `(tactic| x_close) => `(tactic| (
  (rename Mem _ _ _ _ => D)
  refine ⟨_, _, _, _, rfl, rfl, ?_, (D.nw _ (.tail _ (.head _))).2, (D.nw _ (.tail _ (.tail _ (.head _)))).2, D.ne 1 2 _ _ _ _ rfl rfl rfl, ?_, ?_⟩
  · exact fun b o e => D.keep b o e (Bool.or_true _)
  · refine (D.nw _ (.tail _ (.head _))).1.trans (congrArg some ?_); kernel_rfl
  · refine (D.nw _ (.tail _ (.tail _ (.head _)))).1.trans (congrArg some ?_); kernel_rfl))
theorem mk_call {prog : Program} (hprog : prog = PySem.Challenge.rw_qh0048_01.row.prog) {w : World} {s : Shared} {l : List Env} {E : Value → Shared → Prop} {C N T p fi fl ci : Addr} {h1 h2 h3 h4 h5 h6 h7 h8 h9 h10 h11 h12 h13 : Int} {t1 t2 t3 t4 t5 t6 t7 t8 t9 t10 t11 t12 t13 u1 u2 u3 u4 u5 u6 u7 : Tok} {v1 v2 v3 v4 v5 v6 v7 v8 pm fv v12 v13 v14 v15 : Value} {n : Nat} {tb : Addr} {n16 : Int} {b : Array UInt8} {t : Tok}
    (X : (K1 w.params).In s.heap) (hC : s.heap.get? C = some (clsObj C N T u1 u2))
    (hN : s.heap.get? N = some (nsObj h1 h2 h3 h4 h5 h6 h7 h8 h9 h10 h11 h12 h13 t1 t2 t3 t4 t5 t6 t7 t8 t9 t10 t11 t12 t13 v1 v2 v3 v4 v5 v6 v7 v8 fi fl p n))
    (hp : s.heap.get? p = some (dscObj C u3)) (hi : s.heap.get? fi = some (fnObj 2 nmInit qnInit [] pm ci .none))
    (hc : s.heap.get? ci = some (codeObj nmInit qnInit 161 2 19 fv tb v12 v13 v14 v15 n16 u4 u5 u6 u7)) :
    wpAny (model prog w) ⟨none, 680, some l, some [], 400⟩ (call (.ref C) [.bytes b t])
      (fun v s' => ∃ i d h' tk, v = .ref i ∧ s' = { s with heap := h', toks := tk } ∧ Keep s.heap h' ∧ s.heap.get? i = none ∧ s.heap.get? d = none ∧ i ≠ d ∧ h'.get? i = some ⟨.ref C, some d, .plain, #[some (.bytes b t)]⟩ ∧ h'.get? d = some ⟨.type "dict", none, .dict #[] 0, #[]⟩) E s := by
  revert X hprog; k_fill; intro hprog X; clear hprog
  simp only [clsObj, nsObj, dscObj, fnObj, codeObj] at hC hN hp hi hc
  x_run
end Mine
end

section
open PySem PySem.W PySem.W.X PyProof.Rows PySem.Calls
namespace Mine
section
variable {α : Type} {prog : Program} {w : World} {A : Around} {E : Value → Shared → Prop} {Q : α → Shared → Prop} {h₀ h : Heap} {g : Array GenState} {d : Drawn} {t : Nat} {os : OsState} {chg news : List (Addr × Obj)}
theorem e_pure {a : α} {s : Shared} (x : Q a s) : wpAny (model prog w) A (Sem.pure a) Q E s := wpAny_pure x
theorem e_load {a : Addr} {q : Option Value} {k : Obj → Sem α} {o : Obj} (ho : h.get? a = some o) (x : wpAny (model prog w) A (k o) Q E ⟨h, g, d, t, os⟩) : wpAny (model prog w) A (.load a q k) Q E ⟨h, g, d, t, os⟩ :=
  x_load ho x
theorem e_fresh {k : Tok → Sem α} (x : wpAny (model prog w) A (k t) Q E ⟨h, g, d, t + 1, os⟩) : wpAny (model prog w) A (.fresh k) Q E ⟨h, g, d, t, os⟩ := x_fresh x
theorem e_rule {r : String} {k : Unit → Sem α} {s : Shared} (x : wpAny (model prog w) A (k ()) Q E s) : wpAny (model prog w) A (.rule r k) Q E s := x_rule x
theorem e_at {r : Pos} {k : Unit → Sem α} {s : Shared} (x : wpAny (model prog w) A (k ()) Q E s) : wpAny (model prog w) A (.at r k) Q E s := x_at x
theorem e_point {r : List Value} {k : Unit → Sem α} {s : Shared} (x : wpAny (model prog w) A (k ()) Q E s) : wpAny (model prog w) A (.point r k) Q E s := x_point x
theorem e_ask {k : Setting → Sem α} {s : Shared} (x : wpAny (model prog w) A (k ⟨prog, w.params⟩) Q E s) : wpAny (model prog w) A (.ask k) Q E s := x_ask x
theorem e_alloc {o : Obj} {k : Addr → Sem α} (D : Mem h₀ h chg news) (hf : o.isFreed = false)
    (x : ∀ a h', Mem h₀ h' chg ((a, o) :: news) → wpAny (model prog w) A (k a) Q E ⟨h', g, d, t, os⟩) : wpAny (model prog w) A (.alloc o k) Q E ⟨h, g, d, t, os⟩ :=
  wpAny_bind (m := alloc o) (f := k) (wpAny_alloc (x _ _ (D.alloc hf)))
theorem e_update {a : Addr} {q : Option Value} {f : Obj → Obj} {k : Unit → Sem α} {o : Obj} (D : Mem h₀ h chg news) (i : Nat) (o' : Obj) (hi : news[i]? = some (a, o)) (ho : f o = o')
    (hf : o'.isFreed = false) (x : ∀ h', Mem h₀ h' chg (news.set i (a, o')) → wpAny (model prog w) A (k ()) Q E ⟨h', g, d, t, os⟩) : wpAny (model prog w) A (.update a q f k) Q E ⟨h, g, d, t, os⟩ :=
  wpAny_bind (m := updatePart a q f) (f := k) (wpAny_updatePart (D.at i a o hi) (x _ (by have := D.update (f := f) hi (by rw [ho]; exact hf); rwa [ho] at this)))
theorem e_call {c : Code} {hd : Option Value} {gb : Bool} {l : List Value} {k : Result → Sem α} {s : Shared}
    (x : wpAny (model prog w) A (.call c hd gb l Sem.pure) (fun r s' => wpAny (model prog w) A (k r) Q E s') E s) : wpAny (model prog w) A (.call c hd gb l k) Q E s :=
  wpAny_bind (m := .call c hd gb l Sem.pure) (f := k) x
theorem e_callc {c c' : Code} {hd : Option Value} {gb : Bool} {l : List Value} {k : Result → Sem α} {s : Shared} (e : c = c')
    (x : wpAny (model prog w) A (.call c' hd gb l k) Q E s) : wpAny (model prog w) A (.call c hd gb l k) Q E s := by rw [e]; exact x
theorem e_ifn {p : Prop} [Decidable p] {a b : Sem α} {s : Shared} (hp : ¬ p) (x : wpAny (model prog w) A b Q E s) : wpAny (model prog w) A (if p then a else b) Q E s := by rw [if_neg hp]; exact x
theorem e_ify {p : Prop} [Decidable p] {a b : Sem α} {s : Shared} (hp : p) (x : wpAny (model prog w) A a Q E s) : wpAny (model prog w) A (if p then a else b) Q E s := by rw [if_pos hp]; exact x
theorem e_bind {β : Type} {m : Sem β} {k : β → Sem α} {s : Shared} (x : wpAny (model prog w) A m (fun b s' => wpAny (model prog w) A (k b) Q E s') E s) : wpAny (model prog w) A (m.bind k) Q E s := wpAny_bind x
theorem e_eq {m m' : Sem α} {s : Shared} (e : m = m') (x : wpAny (model prog w) A m' Q E s) : wpAny (model prog w) A m Q E s := by rw [e]; exact x
theorem e_bindp {β : Type} {m : Sem β} {k : β → Sem α} {s : Shared} (b : β) (e : m = .pure b) (x : wpAny (model prog w) A (k b) Q E s) : wpAny (model prog w) A (m.bind k) Q E s := e_bind (e_eq e (e_pure x))
theorem e_nb {b : Bool} {x y : Sem α} {s : Shared} (e : b = false) (z : wpAny (model prog w) A y Q E s) : wpAny (model prog w) A (if b = true then x else y) Q E s := by rw [e]; exact z
theorem e_yb {b : Bool} {x y : Sem α} {s : Shared} (e : b = true) (z : wpAny (model prog w) A x Q E s) : wpAny (model prog w) A (if b = true then x else y) Q E s := by rw [e]; exact z
theorem e_try {m : Sem α} {k : Value → Sem α} {s : Shared} (x : wpAny (model prog w) A m Q (fun _ _ => False) s) : wpAny (model prog w) A (m.tryCatch k) Q E s := wpAny_tryCatch (wpAny_mono x (fun _ _ q => q) (fun _ _ q => q.elim))
end
end Mine
namespace Mine
/-- what a run of steps has left: all old objects but the code table, and a list of known objects -/
structure Mm (h₀ h : Heap) (news : List (Addr × Obj)) : Prop where
  keep : ∀ b o, b ≠ 111 → h₀.get? b = some o → h.get? b = some o
  nw : ∀ p ∈ news, h.get? p.1 = some p.2
  fr : ∀ p ∈ news, p.1 ≠ 111 → h₀.get? p.1 = none
  nd : (news.map (·.1)).Nodup
  tb : ∃ tab, (111, tab) ∈ news
section
variable {h₀ h h' : Heap} {news : List (Addr × Obj)}
theorem Mm.start {tab : Obj} (e : h.get? 111 = some tab) : Mm h h [(111, tab)] := by
  refine ⟨fun _ _ _ e => e, fun p hp => ?_, fun p hp q => ?_, ?_, ⟨tab, .head _⟩⟩
  · cases hp with | head => exact e | tail _ z => cases z
  · cases hp with | head => exact absurd rfl q | tail _ z => cases z
  · exact List.nodup_cons.mpr ⟨List.not_mem_nil, List.nodup_nil⟩
theorem Mm.at (D : Mm h₀ h news) (i : Nat) (a : Addr) (o : Obj) (hi : news[i]? = some (a, o)) : h.get? a = some o := D.nw _ (List.mem_of_getElem? hi)
theorem Mm.there (D : Mm h₀ h news) {b : Addr} {o : Obj} (e : h₀.get? b = some o) : ∃ o', h.get? b = some o' := by
  by_cases hb : b = 111
  · subst hb; obtain ⟨tab, ht⟩ := D.tb; exact ⟨tab, D.nw _ ht⟩
  · exact ⟨o, D.keep b o hb e⟩
theorem Mm.add (D : Mm h₀ h news) {n' : List (Addr × Obj)} (M : Mem h h' [] n') : Mm h₀ h' (n' ++ news) := by
  have kp : ∀ b o, h.get? b = some o → h'.get? b = some o := fun b o e => M.keep b o e (Bool.or_true _)
  refine ⟨fun b o hb e => kp b o (D.keep b o hb e), fun p hp => ?_, fun p hp q => ?_, ?_, ?_⟩
  · rcases List.mem_append.mp hp with z | z
    · exact (M.nw p z).1
    · exact kp _ _ (D.nw p z)
  · rcases List.mem_append.mp hp with z | z
    · cases e : h₀.get? p.1 with
      | none => rfl
      | some o => have := D.keep _ o q e; rw [(M.nw p z).2] at this; cases this
    · exact D.fr p z q
  · rw [List.map_append]
    refine List.nodup_append.mpr ⟨M.ord.imp fun z => Nat.ne_of_gt z, D.nd, fun a ha b hb e => ?_⟩
    obtain ⟨p, hp, rfl⟩ := List.mem_map.mp ha
    obtain ⟨q, hq, rfl⟩ := List.mem_map.mp hb
    have z := (M.nw p hp).2
    rw [e, D.nw q hq] at z; cases z
  · obtain ⟨tab, z⟩ := D.tb; exact ⟨tab, List.mem_append.mpr (.inr z)⟩
theorem Mm.alloc (D : Mm h₀ h news) {o : Obj} (hf : o.isFreed = false) : Mm h₀ (h.push o) ((h.objs.size, o) :: news) := D.add ((Mem.start h).alloc hf)
theorem nodup_split : ∀ {l : List (Addr × Obj)} {i : Nat} {a : Addr} {o o' : Obj}, (l.map (·.1)).Nodup → l[i]? = some (a, o) → ∀ p ∈ l.set i (a, o'), p = (a, o') ∨ (p ∈ l ∧ p.1 ≠ a)
  | [], _, _, _, _, _, h => by cases h
  | x :: l, 0, a, o, o', hn, h => fun p hp => by
    cases h
    rw [List.map_cons, List.nodup_cons] at hn
    rcases List.mem_cons.mp hp with z | z
    · exact .inl z
    · exact .inr ⟨.tail _ z, fun e => hn.1 (by have := List.mem_map_of_mem (f := (·.1)) z; rw [e] at this; exact this)⟩
  | x :: l, i + 1, a, o, o', hn, h => fun p hp => by
    rw [List.map_cons, List.nodup_cons] at hn
    have h' : l[i]? = some (a, o) := by simpa using h
    rcases List.mem_cons.mp hp with z | z
    · subst z; exact .inr ⟨.head _, fun e => hn.1 (e ▸ List.mem_map_of_mem (List.mem_of_getElem? h'))⟩
    · rcases nodup_split hn.2 h' p z with y | y
      · exact .inl y
      · exact .inr ⟨.tail _ y.1, y.2⟩
theorem keys_set : ∀ {l : List (Addr × Obj)} {i : Nat} {a : Addr} {o o' : Obj}, l[i]? = some (a, o) → (l.set i (a, o')).map (·.1) = l.map (·.1)
  | [], _, _, _, _, h => by cases h
  | x :: l, 0, a, o, o', h => by cases h; rfl
  | x :: l, i + 1, a, o, o', h => by
    show x.1 :: (l.set i (a, o')).map (·.1) = _
    rw [keys_set (o' := o') (by simpa using h)]; rfl
theorem Mm.update (D : Mm h₀ h news) {i : Nat} {a : Addr} {o : Obj} {f : Obj → Obj} (hi : news[i]? = some (a, o)) (hf : (f o).isFreed = false) : Mm h₀ (h.update a f) (news.set i (a, f o)) := by
  have hs : Heap.SameBut a h (h.update a f) := Heap.SameBut.update ..
  have ge : (h.update a f).get? a = some (f o) := Heap.get?_update_self f (D.at i a o hi) hf
  have ha : a ≠ 111 → h₀.get? a = none := fun q => D.fr _ (List.mem_of_getElem? hi) q
  refine ⟨fun b o' hb e => (hs.2 b ?_).trans (D.keep b o' hb e), fun p hp => ?_, fun p hp q => ?_, (keys_set (o' := f o) hi) ▸ D.nd, ?_⟩
  · rintro rfl; rw [ha hb] at e; cases e
  · rcases nodup_split D.nd hi p hp with rfl | z
    · exact ge
    · exact (hs.2 _ z.2).trans (D.nw p z.1)
  · rcases nodup_split D.nd hi p hp with rfl | z
    · exact ha q
    · exact D.fr p z.1 q
  · obtain ⟨tab, z⟩ := D.tb
    have : (111 : Addr) ∈ (news.set i (a, f o)).map (·.1) := by rw [keys_set hi]; exact List.mem_map_of_mem (f := (·.1)) z
    obtain ⟨p, hp, e⟩ := List.mem_map.mp this
    exact ⟨p.2, by cases p; cases e; exact hp⟩
theorem Mm.ne (D : Mm h₀ h news) (i j : Nat) (a b : Addr) (oa ob : Obj) (hi : news[i]? = some (a, oa)) (hj : news[j]? = some (b, ob)) (ij : Nat.blt i j = true) : a ≠ b := by
  intro e
  have hl : i < j := Nat.lt_of_succ_le (Nat.le_of_ble_eq_true ij)
  obtain ⟨l1, e1⟩ := List.getElem?_eq_some_iff.mp hi
  obtain ⟨l2, e2⟩ := List.getElem?_eq_some_iff.mp hj
  have p := List.pairwise_iff_getElem.mp D.nd i j (by rw [List.length_map]; exact l1) (by rw [List.length_map]; exact l2) hl
  rw [List.getElem_map, List.getElem_map, e1, e2] at p
  exact p e
theorem Mm.ne_old (D : Mm h₀ h news) (i : Nat) (a : Addr) (o : Obj) (hi : news[i]? = some (a, o)) (q : a ≠ 111) (b : Addr) (ob : Obj) (e : h₀.get? b = some ob) : a ≠ b := by
  rintro rfl
  have := D.fr _ (List.mem_of_getElem? hi) q
  rw [show h₀.get? a = none from this] at e; cases e
theorem Mm.in (D : Mm h₀ h news) {P : Params} (X : (K1 P).In h₀) : (K1 P).In h := fun a o e => D.keep a o (fun z => by subst z; cases e) (X a o e)
end
section
variable {α : Type} {prog : Program} {w : World} {A : Around} {E : Value → Shared → Prop} {Q : α → Shared → Prop} {h₀ h : Heap} {g : Array GenState} {d : Drawn} {t : Nat} {os : OsState} {news : List (Addr × Obj)}
theorem m_alloc {o : Obj} {k : Addr → Sem α} (D : Mm h₀ h news) (o' : Obj) (ho : o = o') (hf : o'.isFreed = false)
    (x : ∀ a h', Mm h₀ h' ((a, o') :: news) → wpAny (model prog w) A (k a) Q E ⟨h', g, d, t, os⟩) : wpAny (model prog w) A (.alloc o k) Q E ⟨h, g, d, t, os⟩ :=
  wpAny_bind (m := alloc o) (f := k) (wpAny_alloc (x _ _ (by subst ho; exact D.alloc hf)))
theorem m_update {a : Addr} {q : Option Value} {f : Obj → Obj} {k : Unit → Sem α} {o : Obj} (D : Mm h₀ h news) (i : Nat) (o' : Obj) (hi : news[i]? = some (a, o)) (ho : f o = o')
    (hf : o'.isFreed = false) (x : ∀ h', Mm h₀ h' (news.set i (a, o')) → wpAny (model prog w) A (k ()) Q E ⟨h', g, d, t, os⟩) : wpAny (model prog w) A (.update a q f k) Q E ⟨h, g, d, t, os⟩ :=
  wpAny_bind (m := updatePart a q f) (f := k) (wpAny_updatePart (D.at i a o hi) (x _ (by subst ho; exact D.update hi hf)))
end
end Mine
namespace Mine
section
variable {α : Type} {prog : Program} {w : World} {A : Around} {E : Value → Shared → Prop} {Q : α → Shared → Prop} {h₀ h : Heap} {g : Array GenState} {d : Drawn} {t : Nat} {os : OsState} {n : List (Addr × Obj)} {p0 p1 p2 p3 : Addr × Obj} {a : Addr} {q : Option Value} {f : Obj → Obj} {k : Unit → Sem α} {o : Obj}
theorem u0 (D : Mm h₀ h ((a, o) :: n)) (o' : Obj) (ho : f o = o') (hf : o'.isFreed = false) (x : ∀ h', Mm h₀ h' ((a, o') :: n) → wpAny (model prog w) A (k ()) Q E ⟨h', g, d, t, os⟩) : wpAny (model prog w) A (.update a q f k) Q E ⟨h, g, d, t, os⟩ := m_update D 0 o' rfl ho hf x
theorem u1 (D : Mm h₀ h (p0 :: (a, o) :: n)) (o' : Obj) (ho : f o = o') (hf : o'.isFreed = false) (x : ∀ h', Mm h₀ h' (p0 :: (a, o') :: n) → wpAny (model prog w) A (k ()) Q E ⟨h', g, d, t, os⟩) : wpAny (model prog w) A (.update a q f k) Q E ⟨h, g, d, t, os⟩ := m_update D 1 o' rfl ho hf x
theorem u2 (D : Mm h₀ h (p0 :: p1 :: (a, o) :: n)) (o' : Obj) (ho : f o = o') (hf : o'.isFreed = false) (x : ∀ h', Mm h₀ h' (p0 :: p1 :: (a, o') :: n) → wpAny (model prog w) A (k ()) Q E ⟨h', g, d, t, os⟩) : wpAny (model prog w) A (.update a q f k) Q E ⟨h, g, d, t, os⟩ := m_update D 2 o' rfl ho hf x
theorem u3 (D : Mm h₀ h (p0 :: p1 :: p2 :: (a, o) :: n)) (o' : Obj) (ho : f o = o') (hf : o'.isFreed = false) (x : ∀ h', Mm h₀ h' (p0 :: p1 :: p2 :: (a, o') :: n) → wpAny (model prog w) A (k ()) Q E ⟨h', g, d, t, os⟩) : wpAny (model prog w) A (.update a q f k) Q E ⟨h, g, d, t, os⟩ := m_update D 3 o' rfl ho hf x
theorem l0 {k : Obj → Sem α} (D : Mm h₀ h ((a, o) :: n)) (x : wpAny (model prog w) A (k o) Q E ⟨h, g, d, t, os⟩) : wpAny (model prog w) A (.load a q k) Q E ⟨h, g, d, t, os⟩ := e_load (D.at 0 _ _ rfl) x
theorem l1 {k : Obj → Sem α} (D : Mm h₀ h (p0 :: (a, o) :: n)) (x : wpAny (model prog w) A (k o) Q E ⟨h, g, d, t, os⟩) : wpAny (model prog w) A (.load a q k) Q E ⟨h, g, d, t, os⟩ := e_load (D.at 1 _ _ rfl) x
theorem l2 {k : Obj → Sem α} (D : Mm h₀ h (p0 :: p1 :: (a, o) :: n)) (x : wpAny (model prog w) A (k o) Q E ⟨h, g, d, t, os⟩) : wpAny (model prog w) A (.load a q k) Q E ⟨h, g, d, t, os⟩ := e_load (D.at 2 _ _ rfl) x
theorem l3 {k : Obj → Sem α} (D : Mm h₀ h (p0 :: p1 :: p2 :: (a, o) :: n)) (x : wpAny (model prog w) A (k o) Q E ⟨h, g, d, t, os⟩) : wpAny (model prog w) A (.load a q k) Q E ⟨h, g, d, t, os⟩ := e_load (D.at 3 _ _ rfl) x
end
end Mine
namespace Mine
section
variable {α : Type} {prog : Program} {w : World} {A : Around} {E : Value → Shared → Prop} {Q : α → Shared → Prop} {h₀ h : Heap} {g : Array GenState} {d : Drawn} {t : Nat} {os : OsState} {n : List (Addr × Obj)} {p0 p1 p2 p3 : Addr × Obj} {a : Addr} {q : Option Value} {k : Unit → Sem α} {o : Obj} {nm : Str} {hv : Int} {key v : Value}
theorem u0h (D : Mm h₀ h ((a, o) :: n)) (o' : Int → Obj) (ho : ∀ x, Obj.putName nm x key v o = o' x) (hf : ∀ x, (o' x).isFreed = false) (x : ∀ hx h', Mm h₀ h' ((a, o' hx) :: n) → wpAny (model prog w) A (k ()) Q E ⟨h', g, d, t, os⟩) : wpAny (model prog w) A (.update a q (Obj.putName nm hv key v) k) Q E ⟨h, g, d, t, os⟩ := m_update D 0 (o' hv) rfl (ho hv) (hf hv) (x hv)
theorem u1h (D : Mm h₀ h (p0 :: (a, o) :: n)) (o' : Int → Obj) (ho : ∀ x, Obj.putName nm x key v o = o' x) (hf : ∀ x, (o' x).isFreed = false) (x : ∀ hx h', Mm h₀ h' (p0 :: (a, o' hx) :: n) → wpAny (model prog w) A (k ()) Q E ⟨h', g, d, t, os⟩) : wpAny (model prog w) A (.update a q (Obj.putName nm hv key v) k) Q E ⟨h, g, d, t, os⟩ := m_update D 1 (o' hv) rfl (ho hv) (hf hv) (x hv)
theorem u2h (D : Mm h₀ h (p0 :: p1 :: (a, o) :: n)) (o' : Int → Obj) (ho : ∀ x, Obj.putName nm x key v o = o' x) (hf : ∀ x, (o' x).isFreed = false) (x : ∀ hx h', Mm h₀ h' (p0 :: p1 :: (a, o' hx) :: n) → wpAny (model prog w) A (k ()) Q E ⟨h', g, d, t, os⟩) : wpAny (model prog w) A (.update a q (Obj.putName nm hv key v) k) Q E ⟨h, g, d, t, os⟩ := m_update D 2 (o' hv) rfl (ho hv) (hf hv) (x hv)
theorem u3h (D : Mm h₀ h (p0 :: p1 :: p2 :: (a, o) :: n)) (o' : Int → Obj) (ho : ∀ x, Obj.putName nm x key v o = o' x) (hf : ∀ x, (o' x).isFreed = false) (x : ∀ hx h', Mm h₀ h' (p0 :: p1 :: p2 :: (a, o' hx) :: n) → wpAny (model prog w) A (k ()) Q E ⟨h', g, d, t, os⟩) : wpAny (model prog w) A (.update a q (Obj.putName nm hv key v) k) Q E ⟨h, g, d, t, os⟩ := m_update D 3 (o' hv) rfl (ho hv) (hf hv) (x hv)
end
end Mine

namespace Mine
theorem uN {α : Type} {prog : Program} {w : World} {A : Around} {E : Value → Shared → Prop} {Q : α → Shared → Prop} {h₀ h : Heap} {g : Array GenState} {d : Drawn} {t : Nat} {os : OsState} {n : List (Addr × Obj)} {a : Addr} {q : Option Value} {k : Unit → Sem α} {o : Obj} {nm : Str} {hv : Int} {key v : Value} (i : Nat) (D : Mm h₀ h n) (o' : Int → Obj) (hi : n[i]? = some (a, o)) (ho : ∀ x, Obj.putName nm x key v o = o' x) (hf : ∀ x, (o' x).isFreed = false)
    (x : ∀ hx h', Mm h₀ h' (n.set i (a, o' hx)) → wpAny (model prog w) A (k ()) Q E ⟨h', g, d, t, os⟩) : wpAny (model prog w) A (.update a q (Obj.putName nm hv key v) k) Q E ⟨h, g, d, t, os⟩ := m_update D i (o' hv) hi (ho hv) (hf hv) (x hv)
end Mine

theorem PySem.Heap.NoLimit.keepsB {h₀ h : Heap} {news : List (Addr × Obj)} (x : h₀.NoLimit) (D : Mine.Mm h₀ h news) : h.NoLimit := x.at fun o e => D.keep _ o (by decide) e
end

section
open PySem PySem.W PySem.W.X PyProof.Rows PySem.Calls
namespace Mine
def initSub : Str := ⟨#[95, 95, 105, 110, 105, 116, 95, 115, 117, 98, 99, 108, 97, 115, 115, 95, 95]⟩
def supObj (C : Addr) : Obj := ⟨.type "super", none, .fields #[.ref C, .ref C, .ref C], #[]⟩
local macro_rules | `(tactic| x_close) => `(tactic| first
  | ((rename Mem _ _ _ _ => D); exact ⟨_, _, _, rfl, rfl, D⟩)
  | exact ⟨0, _, _, rfl, rfl, rfl, Mem.start _⟩)
section
variable {w : World} {h : Heap} {g : Array GenState} {d : Drawn} {t : Nat} {os : OsState} {A : Around} {E : Value → Shared → Prop}
theorem x_collect {prog : Program} (hprog : prog = PySem.Challenge.rw_qh0048_01.row.prog) {sl : Addr} {ts : Tok} (X : (K1 w.params).In h) (hsl : h.get? sl = some ⟨.type "list", none, .seq #[.str nmObj ts] 0, #[]⟩) :
    wpAny (model prog w) A (.call (.builtin "proto.collect" ⟨[.ref sl], []⟩) none false [] Sem.pure) (fun r s' => ∃ L h' tk, r = .ok (.ret (.ref L)) ∧ s' = ⟨h', g, d, tk, os⟩ ∧ Mem h h' [] [(L, ⟨.type "list", none, .seq #[.str nmObj ts] 1, #[]⟩)]) E ⟨h, g, d, t, os⟩ := by
  revert X hprog; k_fill; intro hprog X; clear hprog
  x_run
theorem x_super {prog : Program} (hprog : prog = PySem.Challenge.rw_qh0048_01.row.prog) {C N T : Addr} {u1 u2 : Tok} (X : (K1 w.params).In h) (hC : h.get? C = some (clsObj C N T u1 u2)) :
    wpAny (model prog w) A (.call (.call (.type "super") ⟨[.ref C, .ref C], []⟩) none false [] Sem.pure) (fun r s' => ∃ S h' tk, r = .ok (.ret (.ref S)) ∧ s' = ⟨h', g, d, tk, os⟩ ∧ Mem h h' [] [(S, supObj C)]) E ⟨h, g, d, t, os⟩ := by
  revert X hprog; k_fill; intro hprog X; clear hprog
  simp only [clsObj] at hC
  x_run
theorem x_get {prog : Program} (hprog : prog = PySem.Challenge.rw_qh0048_01.row.prog) {C N T : Addr} {u1 u2 : Tok} (X : (K1 w.params).In h) (hC : h.get? C = some (clsObj C N T u1 u2)) :
    wpAny (model prog w) A (.call (.call (.builtin "classmethod_descriptor.__get__") ⟨[.builtin "object.__init_subclass__", .none, .ref C], []⟩) none false [] Sem.pure) (fun r s' => ∃ S h' tk, r = .ok (.ret (.ref S)) ∧ s' = ⟨h', g, d, tk, os⟩ ∧ Mem h h' [] [(S, ⟨.type "builtin_function_or_method", none, .fields #[.builtin "object.__init_subclass__", .ref C], #[]⟩)]) E ⟨h, g, d, t, os⟩ := by
  revert X hprog; k_fill; intro hprog X; clear hprog
  simp only [clsObj] at hC
  x_run
theorem x_hook {prog : Program} (hprog : prog = PySem.Challenge.rw_qh0048_01.row.prog) {S C N T : Addr} {u1 u2 : Tok} (X : (K1 w.params).In h) (hC : h.get? C = some (clsObj C N T u1 u2)) (hS : h.get? S = some ⟨.type "builtin_function_or_method", none, .fields #[.builtin "object.__init_subclass__", .ref C], #[]⟩) :
    wpAny (model prog w) A (.call (.call (.ref S) ⟨[], []⟩) none false [] Sem.pure) (fun r s' => ∃ n h' tk, r = .ok (.ret .none) ∧ s' = ⟨h', g, d, tk, os⟩ ∧ n = 0 ∧ Mem h h' [] []) E ⟨h, g, d, t, os⟩ := by
  revert X hprog; k_fill; intro hprog X; clear hprog
  simp only [clsObj] at hC
  x_run
theorem den_of {id : String} {b : Builtin} (hb : entryFor table id = some b) (args : Args) : denote table (.builtin id args) = b args := by
  show (match entryFor table id with | some b => b args | none => unsupported ((withoutEnding? id "#data").getD id)) = _
  rw [hb]
theorem sga_b : ∀ args, denote table (.builtin "super.__getattribute__" args) = Builtin.«super.__getattribute__» args := den_of (entryFor_of_tree (by kernel_rfl))
theorem sga {S C N T : Addr} {u1 u2 tq : Tok} (X : (K1 w.params).In h) (hC : h.get? C = some (clsObj C N T u1 u2)) (hS : h.get? S = some (supObj C)) :
    wpAny (model PySem.Challenge.rw_qh0048_01.row.prog w) A (.call (.call (.builtin "super.__getattribute__") ⟨[.ref S, .str initSub tq], []⟩) none false [] Sem.pure) (fun r s' => ∃ S h' tk, r = .ok (.ret (.ref S)) ∧ s' = ⟨h', g, d, tk, os⟩ ∧ Mem h h' [] [(S, ⟨.type "builtin_function_or_method", none, .fields #[.builtin "object.__init_subclass__", .ref C], #[]⟩)]) E ⟨h, g, d, t, os⟩ := by
  have h2 := X 2 _ rfl
  refine x_call (x_code ?_) (fun e => by cases e)
  refine e_load hS ?_
  refine e_pure ⟨by kernel_rfl, x_code ?_⟩
  rw [sga_b]
  refine e_load hS ?_
  refine e_load hS ?_
  refine e_load hS ?_
  refine e_load h2 ?_
  refine e_bindp () (by kernel_rfl) ?_
  refine e_load hC ?_
  refine e_bindp [.ref C, .type "object"] (by kernel_rfl) ?_
  have hdw : List.drop 1 (List.dropWhile (fun x => x != Value.ref C) [Value.ref C, .type "object"]) = [.type "object"] := by
    rw [List.dropWhile_cons_of_neg (by simp)]; rfl
  have hb : (Value.ref C == Value.ref C) = true := beq_self_eq_true _
  refine e_eq (congrArg (fun l => bind (forIn l _ _) _) hdw) ?_
  refine e_call ?_
  refine e_callc (c' := .call (.builtin "classmethod_descriptor.__get__") ⟨[.builtin "object.__init_subclass__", .none, .ref C], []⟩) ((congrArg (fun b : Bool => Code.call _ ⟨[_, if b = true then Value.none else _, _], []⟩) hb).trans (by kernel_rfl)) ?_
  refine wpAny_mono (x_get rfl X hC) ?_ (fun _ _ q => q)
  rintro _ _ ⟨S', h', tk, rfl, rfl, M⟩
  refine e_pure ?_
  refine e_pure ?_
  exact ⟨_, _, _, rfl, rfl, M⟩
end
end Mine
end

section
open PySem PySem.W PySem.W.X PyProof.Rows PySem.Calls
namespace Mine

theorem tnewQ {w : World} {h0 : Heap} {g : Array GenState} {d : Drawn} {t : Nat} {os : OsState} {A : Around} {E : Value → Shared → Prop} {B Nd sl fi fl fg fe fle fge sa : Addr} {h1 h2 h3 h4 h5 h6 h7 h8 h9 h10 h11 h12 : Int} {t1 t2 t3 t4 t5 t6 t7 t8 t9 t10 t11 t12 tq t0 ts : Tok} {sm : Str} {tm tn : Tok} {n1 : Int} {di dl dg de dle dge : Option Addr} {fdi fdl fdg fde fdle fdge : Data} {fsi fsl fsg fse fsle fsge : Array (Option Value)} {tds : Data} {tsa : Array (Option Value)} {das : Option Addr} {td : Data} {tsl : Array (Option Value)}
   (X : (K1 w.params).In h0) (hT : h0.get? 111 = some ⟨.none, none, td, tsl⟩)
   (hB : h0.get? B = some ⟨.type "tuple", none, .seq #[.type "object"] 0, #[]⟩) (hNd : h0.get? Nd = some ⟨.type "dict", none, .dict #[⟨h1, .str (⟨#[95, 95, 109, 111, 100, 117, 108, 101, 95, 95]⟩ : Str) t1, .str sm tm⟩, ⟨h2, .str (⟨#[95, 95, 113, 117, 97, 108, 110, 97, 109, 101, 95, 95]⟩ : Str) t2, .str qnK tq⟩, ⟨h3, .str (⟨#[95, 95, 102, 105, 114, 115, 116, 108, 105, 110, 101, 110, 111, 95, 95]⟩ : Str) t3, .int n1 tn⟩, ⟨h4, .str (⟨#[95, 95, 115, 108, 111, 116, 115, 95, 95]⟩ : Str) t4, .ref sl⟩, ⟨h5, .str (⟨#[95, 95, 105, 110, 105, 116, 95, 95]⟩ : Str) t5, .ref fi⟩, ⟨h6, .str (⟨#[95, 95, 108, 116, 95, 95]⟩ : Str) t6, .ref fl⟩, ⟨h7, .str (⟨#[95, 95, 103, 116, 95, 95]⟩ : Str) t7, .ref fg⟩, ⟨h8, .str (⟨#[95, 95, 101, 113, 95, 95]⟩ : Str) t8, .ref fe⟩, ⟨h9, .str (⟨#[95, 95, 108, 101, 95, 95]⟩ : Str) t9, .ref fle⟩, ⟨h10, .str (⟨#[95, 95, 103, 101, 95, 95]⟩ : Str) t10, .ref fge⟩, ⟨h11, .str (⟨#[95, 95, 104, 97, 115, 104, 95, 95]⟩ : Str) t11, .none⟩, ⟨h12, .str (⟨#[95, 95, 115, 116, 97, 116, 105, 99, 95, 97, 116, 116, 114, 105, 98, 117, 116, 101, 115, 95, 95]⟩ : Str) t12, .ref sa⟩] 12, #[]⟩)
   (hsl : h0.get? sl = some ⟨.type "list", none, .seq #[.str nmObj ts] 0, #[]⟩) (nsm : (Nd == sysModules) = false)
   (hfi : h0.get? fi = some ⟨.type "function", di, fdi, fsi⟩) (hfl : h0.get? fl = some ⟨.type "function", dl, fdl, fsl⟩) (hfg : h0.get? fg = some ⟨.type "function", dg, fdg, fsg⟩) (hfe : h0.get? fe = some ⟨.type "function", de, fde, fse⟩) (hfle : h0.get? fle = some ⟨.type "function", dle, fdle, fsle⟩) (hfge : h0.get? fge = some ⟨.type "function", dge, fdge, fsge⟩) (hsa : h0.get? sa = some ⟨.type "tuple", das, tds, tsa⟩)
   {Q : PySem.Fin → Shared → Prop} (hQ : ∀ C N p h13 h14 tk h' tk', Keep h0 h' → h0.get? C = none → h0.get? p = none → h0.get? N = none → h'.get? C = some (clsObj C N B t0 tq) → h'.get? p = some (dscObj C tk) →
        h'.get? N = some ⟨.type "dict", none, .dict #[⟨h1, .str (⟨#[95, 95, 109, 111, 100, 117, 108, 101, 95, 95]⟩ : Str) t1, .str sm tm⟩, ⟨h3, .str (⟨#[95, 95, 102, 105, 114, 115, 116, 108, 105, 110, 101, 110, 111, 95, 95]⟩ : Str) t3, .int n1 tn⟩, ⟨h4, .str (⟨#[95, 95, 115, 108, 111, 116, 115, 95, 95]⟩ : Str) t4, .ref sl⟩, ⟨h5, .str (⟨#[95, 95, 105, 110, 105, 116, 95, 95]⟩ : Str) t5, .ref fi⟩, ⟨h6, .str (⟨#[95, 95, 108, 116, 95, 95]⟩ : Str) t6, .ref fl⟩, ⟨h7, .str (⟨#[95, 95, 103, 116, 95, 95]⟩ : Str) t7, .ref fg⟩, ⟨h8, .str (⟨#[95, 95, 101, 113, 95, 95]⟩ : Str) t8, .ref fe⟩, ⟨h9, .str (⟨#[95, 95, 108, 101, 95, 95]⟩ : Str) t9, .ref fle⟩, ⟨h10, .str (⟨#[95, 95, 103, 101, 95, 95]⟩ : Str) t10, .ref fge⟩, ⟨h11, .str (⟨#[95, 95, 104, 97, 115, 104, 95, 95]⟩ : Str) t11, .none⟩, ⟨h12, .str (⟨#[95, 95, 115, 116, 97, 116, 105, 99, 95, 97, 116, 116, 114, 105, 98, 117, 116, 101, 115, 95, 95]⟩ : Str) t12, .ref sa⟩, ⟨h13, .str nmObj (tk + 1), .ref p⟩, ⟨h14, .str (⟨#[95, 95, 100, 111, 99, 95, 95]⟩ : Str) (tk + 2), .none⟩] 3, #[]⟩ → Q (.done (.ret (.ref C))) ⟨h', g, d, tk', os⟩)
   : wpAny (model PySem.Challenge.rw_qh0048_01.row.prog w) A (Builtin.«type.__new__» ⟨[.type "type", .str nmK t0, .ref B, .ref Nd], []⟩) Q E ⟨h0, g, d, t, os⟩ := by
  have nB : B ≠ 111 := by rintro rfl; rw [hT] at hB; cases hB
  have nNd : Nd ≠ 111 := by rintro rfl; rw [hT] at hNd; cases hNd
  have nsl : sl ≠ 111 := by rintro rfl; rw [hT] at hsl; cases hsl
  have nfi : fi ≠ 111 := by rintro rfl; rw [hT] at hfi; cases hfi
  have nfl : fl ≠ 111 := by rintro rfl; rw [hT] at hfl; cases hfl
  have nfg : fg ≠ 111 := by rintro rfl; rw [hT] at hfg; cases hfg
  have nfe : fe ≠ 111 := by rintro rfl; rw [hT] at hfe; cases hfe
  have nfle : fle ≠ 111 := by rintro rfl; rw [hT] at hfle; cases hfle
  have nfge : fge ≠ 111 := by rintro rfl; rw [hT] at hfge; cases hfge
  have nsa : sa ≠ 111 := by rintro rfl; rw [hT] at hsa; cases hsa
  have D := Mm.start hT
  refine e_load hB ?_
  refine e_load hNd ?_
  refine e_load hB ?_
  rw [nsm]
  refine e_load hNd ?_
  refine e_load hNd ?_
  refine e_rule ?_
  refine e_load hsl ?_
  refine e_call ?_
  refine wpAny_mono (x_collect rfl X hsl) ?_ (fun _ _ q => q)
  rintro _ _ ⟨L, h, tk, rfl, rfl, M⟩
  replace D : Mm h0 h ((L, _) :: [(111, _)]) := D.add M
  clear M
  refine e_load (D.at 0 _ _ rfl) ?_
  refine e_bindp ⟨[nmObj], false, false, []⟩ (by kernel_rfl) ?_
  refine m_alloc D ⟨.type "dict", none, .dict #[⟨h1, .str (⟨#[95, 95, 109, 111, 100, 117, 108, 101, 95, 95]⟩ : Str) t1, .str sm tm⟩, ⟨h2, .str (⟨#[95, 95, 113, 117, 97, 108, 110, 97, 109, 101, 95, 95]⟩ : Str) t2, .str qnK tq⟩, ⟨h3, .str (⟨#[95, 95, 102, 105, 114, 115, 116, 108, 105, 110, 101, 110, 111, 95, 95]⟩ : Str) t3, .int n1 tn⟩, ⟨h4, .str (⟨#[95, 95, 115, 108, 111, 116, 115, 95, 95]⟩ : Str) t4, .ref sl⟩, ⟨h5, .str (⟨#[95, 95, 105, 110, 105, 116, 95, 95]⟩ : Str) t5, .ref fi⟩, ⟨h6, .str (⟨#[95, 95, 108, 116, 95, 95]⟩ : Str) t6, .ref fl⟩, ⟨h7, .str (⟨#[95, 95, 103, 116, 95, 95]⟩ : Str) t7, .ref fg⟩, ⟨h8, .str (⟨#[95, 95, 101, 113, 95, 95]⟩ : Str) t8, .ref fe⟩, ⟨h9, .str (⟨#[95, 95, 108, 101, 95, 95]⟩ : Str) t9, .ref fle⟩, ⟨h10, .str (⟨#[95, 95, 103, 101, 95, 95]⟩ : Str) t10, .ref fge⟩, ⟨h11, .str (⟨#[95, 95, 104, 97, 115, 104, 95, 95]⟩ : Str) t11, .none⟩, ⟨h12, .str (⟨#[95, 95, 115, 116, 97, 116, 105, 99, 95, 97, 116, 116, 114, 105, 98, 117, 116, 101, 115, 95, 95]⟩ : Str) t12, .ref sa⟩] 0, #[]⟩ rfl rfl fun N h D => ?_
  refine e_nb (by kernel_rfl) ?_
  refine e_bindp () (by kernel_rfl) ?_
  refine e_nb (by kernel_rfl) ?_
  refine l0 D ?_
  refine l0 D ?_
  refine l0 D ?_
  refine m_alloc D ⟨.type "type", none, .cls { name := nmK, bases := [.type "object"], mro := [], ns := N, qualname := qnK }, #[]⟩ rfl rfl fun C h D => ?_
  refine u0 D ⟨.type "type", none, .cls { name := nmK, bases := [.type "object"], mro := [], ns := N, qualname := qnK }, #[some (.ref B)]⟩ (by kernel_rfl) rfl fun h D => ?_
  refine u0 D ⟨.type "type", none, .cls { name := nmK, bases := [.type "object"], mro := [], ns := N, qualname := qnK }, #[some (.ref B), none, some (.str nmK t0)]⟩ (by kernel_rfl) rfl fun h D => ?_
  refine u0 D ⟨.type "type", none, .cls { name := nmK, bases := [.type "object"], mro := [], ns := N, qualname := qnK }, #[some (.ref B), none, some (.str nmK t0), some (.str qnK tq)]⟩ (by kernel_rfl) rfl fun h D => ?_
  refine l1 D ?_
  refine u1 D ⟨.type "dict", none, .dict #[⟨h1, .str (⟨#[95, 95, 109, 111, 100, 117, 108, 101, 95, 95]⟩ : Str) t1, .str sm tm⟩, ⟨h3, .str (⟨#[95, 95, 102, 105, 114, 115, 116, 108, 105, 110, 101, 110, 111, 95, 95]⟩ : Str) t3, .int n1 tn⟩, ⟨h4, .str (⟨#[95, 95, 115, 108, 111, 116, 115, 95, 95]⟩ : Str) t4, .ref sl⟩, ⟨h5, .str (⟨#[95, 95, 105, 110, 105, 116, 95, 95]⟩ : Str) t5, .ref fi⟩, ⟨h6, .str (⟨#[95, 95, 108, 116, 95, 95]⟩ : Str) t6, .ref fl⟩, ⟨h7, .str (⟨#[95, 95, 103, 116, 95, 95]⟩ : Str) t7, .ref fg⟩, ⟨h8, .str (⟨#[95, 95, 101, 113, 95, 95]⟩ : Str) t8, .ref fe⟩, ⟨h9, .str (⟨#[95, 95, 108, 101, 95, 95]⟩ : Str) t9, .ref fle⟩, ⟨h10, .str (⟨#[95, 95, 103, 101, 95, 95]⟩ : Str) t10, .ref fge⟩, ⟨h11, .str (⟨#[95, 95, 104, 97, 115, 104, 95, 95]⟩ : Str) t11, .none⟩, ⟨h12, .str (⟨#[95, 95, 115, 116, 97, 116, 105, 99, 95, 97, 116, 116, 114, 105, 98, 117, 116, 101, 115, 95, 95]⟩ : Str) t12, .ref sa⟩] 1, #[]⟩ (by kernel_rfl) rfl fun h D => ?_
  refine l1 D ?_
  refine l1 D ?_
  refine l1 D ?_
  refine l1 D ?_
  refine l1 D ?_
  refine e_bindp none (by kernel_rfl) ?_
  refine e_bindp none (by kernel_rfl) ?_
  refine e_bindp [.type "object"] (by kernel_rfl) ?_
  have hfil : List.filter (fun x => x != Value.ref C) [Value.ref C, .type "object"] = [.type "object"] := by
    rw [List.filter_cons_of_neg (by simp), List.filter_cons_of_pos (by rfl)]; rfl
  refine e_bindp [.ref C, .type "object"] rfl ?_
  refine e_bindp false ((congrArg (List.anyM _) hfil).trans (by kernel_rfl)) ?_
  refine l0 D ?_
  refine u0 D ⟨.type "type", none, .cls { name := nmK, bases := [.type "object"], mro := [.ref C, .type "object"], ns := N, qualname := qnK }, #[some (.ref B), none, some (.str nmK t0), some (.str qnK tq)]⟩ (by kernel_rfl) rfl fun h D => ?_
  refine l0 D ?_
  refine e_bindp () (by kernel_rfl) ?_
  refine e_bindp (some "object.__new__") (by kernel_rfl) ?_
  refine u0 D ⟨.type "type", none, .cls { name := nmK, bases := [.type "object"], mro := [.ref C, .type "object"], ns := N, qualname := qnK }, #[some (.ref B), none, some (.str nmK t0), some (.str qnK tq), some (.builtin "object.__new__")]⟩ (by kernel_rfl) rfl fun h D => ?_
  refine l0 D ?_
  refine l0 D ?_
  refine l0 D ?_
  refine l1 D ?_
  refine e_bindp () (by kernel_rfl) ?_
  refine l1 D ?_
  refine e_fresh ?_
  refine m_alloc D (dscObj C tk) rfl rfl fun p h D => ?_
  refine l2 D ?_
  refine e_ask ?_
  refine e_fresh ?_
  refine l2 D ?_
  refine u2h D (fun x => ⟨.type "dict", none, .dict #[⟨h1, .str (⟨#[95, 95, 109, 111, 100, 117, 108, 101, 95, 95]⟩ : Str) t1, .str sm tm⟩, ⟨h3, .str (⟨#[95, 95, 102, 105, 114, 115, 116, 108, 105, 110, 101, 110, 111, 95, 95]⟩ : Str) t3, .int n1 tn⟩, ⟨h4, .str (⟨#[95, 95, 115, 108, 111, 116, 115, 95, 95]⟩ : Str) t4, .ref sl⟩, ⟨h5, .str (⟨#[95, 95, 105, 110, 105, 116, 95, 95]⟩ : Str) t5, .ref fi⟩, ⟨h6, .str (⟨#[95, 95, 108, 116, 95, 95]⟩ : Str) t6, .ref fl⟩, ⟨h7, .str (⟨#[95, 95, 103, 116, 95, 95]⟩ : Str) t7, .ref fg⟩, ⟨h8, .str (⟨#[95, 95, 101, 113, 95, 95]⟩ : Str) t8, .ref fe⟩, ⟨h9, .str (⟨#[95, 95, 108, 101, 95, 95]⟩ : Str) t9, .ref fle⟩, ⟨h10, .str (⟨#[95, 95, 103, 101, 95, 95]⟩ : Str) t10, .ref fge⟩, ⟨h11, .str (⟨#[95, 95, 104, 97, 115, 104, 95, 95]⟩ : Str) t11, .none⟩, ⟨h12, .str (⟨#[95, 95, 115, 116, 97, 116, 105, 99, 95, 97, 116, 116, 114, 105, 98, 117, 116, 101, 115, 95, 95]⟩ : Str) t12, .ref sa⟩, ⟨x, .str nmObj (tk + 1), .ref p⟩] 2, #[]⟩) (fun x => by kernel_rfl) (fun _ => rfl) fun h13 h D => ?_
  refine l1 D ?_
  refine u1 D ⟨.type "type", none, .cls { name := nmK, bases := [.type "object"], mro := [.ref C, .type "object"], ns := N, qualname := qnK, hasDict := false, slotNames := [nmObj] }, #[some (.ref B), none, some (.str nmK t0), some (.str qnK tq), some (.builtin "object.__new__")]⟩ (by kernel_rfl) rfl fun h D => ?_
  refine l1 D ?_
  refine e_bindp () (by kernel_rfl) ?_
  refine e_bindp false (by kernel_rfl) ?_
  refine u1 D (clsObj C N B t0 tq) (by kernel_rfl) rfl fun h D => ?_
  refine l2 D ?_
  refine e_ask ?_
  refine e_fresh ?_
  refine l2 D ?_
  refine u2h D (fun x => ⟨.type "dict", none, .dict #[⟨h1, .str (⟨#[95, 95, 109, 111, 100, 117, 108, 101, 95, 95]⟩ : Str) t1, .str sm tm⟩, ⟨h3, .str (⟨#[95, 95, 102, 105, 114, 115, 116, 108, 105, 110, 101, 110, 111, 95, 95]⟩ : Str) t3, .int n1 tn⟩, ⟨h4, .str (⟨#[95, 95, 115, 108, 111, 116, 115, 95, 95]⟩ : Str) t4, .ref sl⟩, ⟨h5, .str (⟨#[95, 95, 105, 110, 105, 116, 95, 95]⟩ : Str) t5, .ref fi⟩, ⟨h6, .str (⟨#[95, 95, 108, 116, 95, 95]⟩ : Str) t6, .ref fl⟩, ⟨h7, .str (⟨#[95, 95, 103, 116, 95, 95]⟩ : Str) t7, .ref fg⟩, ⟨h8, .str (⟨#[95, 95, 101, 113, 95, 95]⟩ : Str) t8, .ref fe⟩, ⟨h9, .str (⟨#[95, 95, 108, 101, 95, 95]⟩ : Str) t9, .ref fle⟩, ⟨h10, .str (⟨#[95, 95, 103, 101, 95, 95]⟩ : Str) t10, .ref fge⟩, ⟨h11, .str (⟨#[95, 95, 104, 97, 115, 104, 95, 95]⟩ : Str) t11, .none⟩, ⟨h12, .str (⟨#[95, 95, 115, 116, 97, 116, 105, 99, 95, 97, 116, 116, 114, 105, 98, 117, 116, 101, 115, 95, 95]⟩ : Str) t12, .ref sa⟩, ⟨h13, .str nmObj (tk + 1), .ref p⟩, ⟨x, .str (⟨#[95, 95, 100, 111, 99, 95, 95]⟩ : Str) (tk + 2), .none⟩] 3, #[]⟩) (fun x => by kernel_rfl) (fun _ => rfl) fun h14 h D => ?_
  refine l2 D ?_
  refine l2 D ?_
  refine l2 D ?_
  refine l2 D ?_
  refine e_load (D.keep _ _ nsl hsl) ?_
  refine e_load (D.keep _ _ nfi hfi) ?_
  refine e_load (D.keep _ _ nfl hfl) ?_
  refine e_load (D.keep _ _ nfg hfg) ?_
  refine e_load (D.keep _ _ nfe hfe) ?_
  refine e_load (D.keep _ _ nfle hfle) ?_
  refine e_load (D.keep _ _ nfge hfge) ?_
  refine e_load (D.keep _ _ nsa hsa) ?_
  refine l0 D ?_
  refine e_call ?_
  refine wpAny_mono (x_super rfl (D.in X) (D.at 1 _ _ rfl)) ?_ (fun _ _ q => q)
  rintro _ _ ⟨S, h, tk2, rfl, rfl, M⟩
  replace D : Mm h0 h ((S, supObj C) :: (p, dscObj C tk) :: (C, clsObj C N B t0 tq) :: _) := D.add M
  clear M
  refine e_fresh ?_
  refine l0 D ?_
  refine e_call ?_
  refine wpAny_mono (sga (tq := tk2) (D.in X) (D.at 2 _ _ rfl) (D.at 0 _ _ rfl)) ?_ (fun _ _ q => q)
  rintro _ _ ⟨M', h, tk3, rfl, rfl, M⟩
  replace D : Mm h0 h ((M', _) :: (S, supObj C) :: (p, dscObj C tk) :: (C, clsObj C N B t0 tq) :: _) := D.add M
  clear M
  refine e_call ?_
  refine wpAny_mono (x_hook rfl (D.in X) (D.at 3 _ _ rfl) (D.at 0 _ _ rfl)) ?_ (fun _ _ q => q)
  rintro _ _ ⟨_, h, tk4, rfl, rfl, _, M⟩
  replace D : Mm h0 h ((M', _) :: (S, supObj C) :: (p, dscObj C tk) :: (C, clsObj C N B t0 tq) :: _) := D.add M
  clear M
  refine e_pure ?_
  refine hQ C N p h13 h14 tk h tk4 (fun b o e => ?_) (D.fr _ (.tail _ (.tail _ (.tail _ (.head _)))) ?_) (D.fr _ (List.mem_of_getElem? (i := 2) rfl) (D.ne 2 6 _ _ _ _ rfl rfl rfl)) (D.fr _ (List.mem_of_getElem? (i := 4) rfl) (D.ne 4 6 _ _ _ _ rfl rfl rfl)) (D.at 3 _ _ rfl) (D.at 2 _ _ rfl) (D.at 4 _ _ rfl)
  · by_cases hb : b = 111
    · subst hb; rw [hT] at e; cases e; exact D.at 6 _ _ rfl
    · exact D.keep b o hb e
  · exact D.ne 3 6 _ _ _ _ rfl rfl rfl
theorem tnew {w : World} {h0 : Heap} {g : Array GenState} {d : Drawn} {t : Nat} {os : OsState} {A : Around} {E : Value → Shared → Prop} {B Nd sl fi fl fg fe fle fge sa : Addr} {h1 h2 h3 h4 h5 h6 h7 h8 h9 h10 h11 h12 : Int} {t1 t2 t3 t4 t5 t6 t7 t8 t9 t10 t11 t12 tq t0 ts : Tok} {sm : Str} {tm tn : Tok} {n1 : Int} {di dl dg de dle dge : Option Addr} {fdi fdl fdg fde fdle fdge : Data} {fsi fsl fsg fse fsle fsge : Array (Option Value)} {tds : Data} {tsa : Array (Option Value)} {das : Option Addr} {td : Data} {tsl : Array (Option Value)}
   (X : (K1 w.params).In h0) (hT : h0.get? 111 = some ⟨.none, none, td, tsl⟩)
   (hB : h0.get? B = some ⟨.type "tuple", none, .seq #[.type "object"] 0, #[]⟩) (hNd : h0.get? Nd = some ⟨.type "dict", none, .dict #[⟨h1, .str (⟨#[95, 95, 109, 111, 100, 117, 108, 101, 95, 95]⟩ : Str) t1, .str sm tm⟩, ⟨h2, .str (⟨#[95, 95, 113, 117, 97, 108, 110, 97, 109, 101, 95, 95]⟩ : Str) t2, .str qnK tq⟩, ⟨h3, .str (⟨#[95, 95, 102, 105, 114, 115, 116, 108, 105, 110, 101, 110, 111, 95, 95]⟩ : Str) t3, .int n1 tn⟩, ⟨h4, .str (⟨#[95, 95, 115, 108, 111, 116, 115, 95, 95]⟩ : Str) t4, .ref sl⟩, ⟨h5, .str (⟨#[95, 95, 105, 110, 105, 116, 95, 95]⟩ : Str) t5, .ref fi⟩, ⟨h6, .str (⟨#[95, 95, 108, 116, 95, 95]⟩ : Str) t6, .ref fl⟩, ⟨h7, .str (⟨#[95, 95, 103, 116, 95, 95]⟩ : Str) t7, .ref fg⟩, ⟨h8, .str (⟨#[95, 95, 101, 113, 95, 95]⟩ : Str) t8, .ref fe⟩, ⟨h9, .str (⟨#[95, 95, 108, 101, 95, 95]⟩ : Str) t9, .ref fle⟩, ⟨h10, .str (⟨#[95, 95, 103, 101, 95, 95]⟩ : Str) t10, .ref fge⟩, ⟨h11, .str (⟨#[95, 95, 104, 97, 115, 104, 95, 95]⟩ : Str) t11, .none⟩, ⟨h12, .str (⟨#[95, 95, 115, 116, 97, 116, 105, 99, 95, 97, 116, 116, 114, 105, 98, 117, 116, 101, 115, 95, 95]⟩ : Str) t12, .ref sa⟩] 12, #[]⟩)
   (hsl : h0.get? sl = some ⟨.type "list", none, .seq #[.str nmObj ts] 0, #[]⟩) (nsm : (Nd == sysModules) = false)
   (hfi : h0.get? fi = some ⟨.type "function", di, fdi, fsi⟩) (hfl : h0.get? fl = some ⟨.type "function", dl, fdl, fsl⟩) (hfg : h0.get? fg = some ⟨.type "function", dg, fdg, fsg⟩) (hfe : h0.get? fe = some ⟨.type "function", de, fde, fse⟩) (hfle : h0.get? fle = some ⟨.type "function", dle, fdle, fsle⟩) (hfge : h0.get? fge = some ⟨.type "function", dge, fdge, fsge⟩) (hsa : h0.get? sa = some ⟨.type "tuple", das, tds, tsa⟩)
   : wpAny (model PySem.Challenge.rw_qh0048_01.row.prog w) A (Builtin.«type.__new__» ⟨[.type "type", .str nmK t0, .ref B, .ref Nd], []⟩)
      (fun fin s' => ∃ C N p h13 h14 tk h' tk', fin = .done (.ret (.ref C)) ∧ s' = ⟨h', g, d, tk', os⟩ ∧ Keep h0 h' ∧ h0.get? C = none ∧ h0.get? p = none ∧ h0.get? N = none ∧ h'.get? C = some (clsObj C N B t0 tq) ∧ h'.get? p = some (dscObj C tk) ∧
        h'.get? N = some ⟨.type "dict", none, .dict #[⟨h1, .str (⟨#[95, 95, 109, 111, 100, 117, 108, 101, 95, 95]⟩ : Str) t1, .str sm tm⟩, ⟨h3, .str (⟨#[95, 95, 102, 105, 114, 115, 116, 108, 105, 110, 101, 110, 111, 95, 95]⟩ : Str) t3, .int n1 tn⟩, ⟨h4, .str (⟨#[95, 95, 115, 108, 111, 116, 115, 95, 95]⟩ : Str) t4, .ref sl⟩, ⟨h5, .str (⟨#[95, 95, 105, 110, 105, 116, 95, 95]⟩ : Str) t5, .ref fi⟩, ⟨h6, .str (⟨#[95, 95, 108, 116, 95, 95]⟩ : Str) t6, .ref fl⟩, ⟨h7, .str (⟨#[95, 95, 103, 116, 95, 95]⟩ : Str) t7, .ref fg⟩, ⟨h8, .str (⟨#[95, 95, 101, 113, 95, 95]⟩ : Str) t8, .ref fe⟩, ⟨h9, .str (⟨#[95, 95, 108, 101, 95, 95]⟩ : Str) t9, .ref fle⟩, ⟨h10, .str (⟨#[95, 95, 103, 101, 95, 95]⟩ : Str) t10, .ref fge⟩, ⟨h11, .str (⟨#[95, 95, 104, 97, 115, 104, 95, 95]⟩ : Str) t11, .none⟩, ⟨h12, .str (⟨#[95, 95, 115, 116, 97, 116, 105, 99, 95, 97, 116, 116, 114, 105, 98, 117, 116, 101, 115, 95, 95]⟩ : Str) t12, .ref sa⟩, ⟨h13, .str nmObj (tk + 1), .ref p⟩, ⟨h14, .str (⟨#[95, 95, 100, 111, 99, 95, 95]⟩ : Str) (tk + 2), .none⟩] 3, #[]⟩) E ⟨h0, g, d, t, os⟩ :=
  tnewQ X hT hB hNd hsl nsm hfi hfl hfg hfe hfle hfge hsa fun C N p h13 h14 tk h' tk' a b c d e f g => ⟨C, N, p, h13, h14, tk, h', tk', rfl, rfl, a, b, c, d, e, f, g⟩
end Mine
end

section
open PySem PySem.W PySem.W.X PyProof.Rows PySem.Calls
namespace Mine
local macro_rules | `(tactic| x_close) => `(tactic| first
  | ((rename Mem _ _ _ _ => D); exact ⟨_, _, _, rfl, rfl, D⟩)
  | exact ⟨0, _, _, rfl, rfl, rfl, Mem.start _⟩)
theorem x_tinit {prog : Program} (hprog : prog = PySem.Challenge.rw_qh0048_01.row.prog) {w : World} {h : Heap} {g : Array GenState} {d : Drawn} {t : Nat} {os : OsState} {A : Around} {E : Value → Shared → Prop} {C N T B Nd : Addr} {u1 u2 t0 : Tok} (X : (K1 w.params).In h) (hC : h.get? C = some (clsObj C N T u1 u2)) :
    wpAny (model prog w) A (.call (.call (.builtin "type.__init__") ⟨[.ref C, .str nmK t0, .ref B, .ref Nd], []⟩) none false [] Sem.pure) (fun r s' => ∃ n h' tk, r = .ok (.ret .none) ∧ s' = ⟨h', g, d, tk, os⟩ ∧ n = 0 ∧ Mem h h' [] []) E ⟨h, g, d, t, os⟩ := by
  revert X hprog; k_fill; intro hprog X; clear hprog
  simp only [clsObj] at hC
  x_run
theorem tc_b : ∀ args, denote table (.builtin "type.__call__" args) = Builtin.«type.__call__» args := den_of PySem.entry_typeCall
theorem tn_b : ∀ args, denote table (.builtin "type.__new__" args) = Builtin.«type.__new__» args := den_of (entryFor_of_tree (by kernel_rfl))
end Mine
end

section
open PySem PySem.W PySem.W.X PyProof.Rows PySem.Calls
namespace Mine
theorem tcall {w : World} {h0 : Heap} {g : Array GenState} {d : Drawn} {t : Nat} {os : OsState} {A : Around} {E : Value → Shared → Prop} {B Nd sl fi fl fg fe fle fge sa : Addr} {h1 h2 h3 h4 h5 h6 h7 h8 h9 h10 h11 h12 : Int} {t1 t2 t3 t4 t5 t6 t7 t8 t9 t10 t11 t12 tq t0 ts : Tok} {sm : Str} {tm tn : Tok} {n1 : Int} {di dl dg de dle dge : Option Addr} {fdi fdl fdg fde fdle fdge : Data} {fsi fsl fsg fse fsle fsge : Array (Option Value)} {tds : Data} {tsa : Array (Option Value)} {das : Option Addr} {td : Data} {tsl : Array (Option Value)}
   (X : (K1 w.params).In h0) (hT : h0.get? 111 = some ⟨.none, none, td, tsl⟩)
   (hB : h0.get? B = some ⟨.type "tuple", none, .seq #[.type "object"] 0, #[]⟩) (hNd : h0.get? Nd = some ⟨.type "dict", none, .dict #[⟨h1, .str (⟨#[95, 95, 109, 111, 100, 117, 108, 101, 95, 95]⟩ : Str) t1, .str sm tm⟩, ⟨h2, .str (⟨#[95, 95, 113, 117, 97, 108, 110, 97, 109, 101, 95, 95]⟩ : Str) t2, .str qnK tq⟩, ⟨h3, .str (⟨#[95, 95, 102, 105, 114, 115, 116, 108, 105, 110, 101, 110, 111, 95, 95]⟩ : Str) t3, .int n1 tn⟩, ⟨h4, .str (⟨#[95, 95, 115, 108, 111, 116, 115, 95, 95]⟩ : Str) t4, .ref sl⟩, ⟨h5, .str (⟨#[95, 95, 105, 110, 105, 116, 95, 95]⟩ : Str) t5, .ref fi⟩, ⟨h6, .str (⟨#[95, 95, 108, 116, 95, 95]⟩ : Str) t6, .ref fl⟩, ⟨h7, .str (⟨#[95, 95, 103, 116, 95, 95]⟩ : Str) t7, .ref fg⟩, ⟨h8, .str (⟨#[95, 95, 101, 113, 95, 95]⟩ : Str) t8, .ref fe⟩, ⟨h9, .str (⟨#[95, 95, 108, 101, 95, 95]⟩ : Str) t9, .ref fle⟩, ⟨h10, .str (⟨#[95, 95, 103, 101, 95, 95]⟩ : Str) t10, .ref fge⟩, ⟨h11, .str (⟨#[95, 95, 104, 97, 115, 104, 95, 95]⟩ : Str) t11, .none⟩, ⟨h12, .str (⟨#[95, 95, 115, 116, 97, 116, 105, 99, 95, 97, 116, 116, 114, 105, 98, 117, 116, 101, 115, 95, 95]⟩ : Str) t12, .ref sa⟩] 12, #[]⟩)
   (hsl : h0.get? sl = some ⟨.type "list", none, .seq #[.str nmObj ts] 0, #[]⟩) (nsm : (Nd == sysModules) = false)
   (hfi : h0.get? fi = some ⟨.type "function", di, fdi, fsi⟩) (hfl : h0.get? fl = some ⟨.type "function", dl, fdl, fsl⟩) (hfg : h0.get? fg = some ⟨.type "function", dg, fdg, fsg⟩) (hfe : h0.get? fe = some ⟨.type "function", de, fde, fse⟩) (hfle : h0.get? fle = some ⟨.type "function", dle, fdle, fsle⟩) (hfge : h0.get? fge = some ⟨.type "function", dge, fdge, fsge⟩) (hsa : h0.get? sa = some ⟨.type "tuple", das, tds, tsa⟩)
   : wpAny (model PySem.Challenge.rw_qh0048_01.row.prog w) A (.call (.call (.type "type") ⟨[.str nmK t0, .ref B, .ref Nd], []⟩) none false [] Sem.pure)
      (fun r s' => ∃ C N p h13 h14 tk h' tk', r = .ok (.ret (.ref C)) ∧ s' = ⟨h', g, d, tk', os⟩ ∧ Keep h0 h' ∧ h0.get? C = none ∧ h0.get? p = none ∧ h0.get? N = none ∧ h'.get? C = some (clsObj C N B t0 tq) ∧ h'.get? p = some (dscObj C tk) ∧
        h'.get? N = some ⟨.type "dict", none, .dict #[⟨h1, .str (⟨#[95, 95, 109, 111, 100, 117, 108, 101, 95, 95]⟩ : Str) t1, .str sm tm⟩, ⟨h3, .str (⟨#[95, 95, 102, 105, 114, 115, 116, 108, 105, 110, 101, 110, 111, 95, 95]⟩ : Str) t3, .int n1 tn⟩, ⟨h4, .str (⟨#[95, 95, 115, 108, 111, 116, 115, 95, 95]⟩ : Str) t4, .ref sl⟩, ⟨h5, .str (⟨#[95, 95, 105, 110, 105, 116, 95, 95]⟩ : Str) t5, .ref fi⟩, ⟨h6, .str (⟨#[95, 95, 108, 116, 95, 95]⟩ : Str) t6, .ref fl⟩, ⟨h7, .str (⟨#[95, 95, 103, 116, 95, 95]⟩ : Str) t7, .ref fg⟩, ⟨h8, .str (⟨#[95, 95, 101, 113, 95, 95]⟩ : Str) t8, .ref fe⟩, ⟨h9, .str (⟨#[95, 95, 108, 101, 95, 95]⟩ : Str) t9, .ref fle⟩, ⟨h10, .str (⟨#[95, 95, 103, 101, 95, 95]⟩ : Str) t10, .ref fge⟩, ⟨h11, .str (⟨#[95, 95, 104, 97, 115, 104, 95, 95]⟩ : Str) t11, .none⟩, ⟨h12, .str (⟨#[95, 95, 115, 116, 97, 116, 105, 99, 95, 97, 116, 116, 114, 105, 98, 117, 116, 101, 115, 95, 95]⟩ : Str) t12, .ref sa⟩, ⟨h13, .str nmObj (tk + 1), .ref p⟩, ⟨h14, .str (⟨#[95, 95, 100, 111, 99, 95, 95]⟩ : Str) (tk + 2), .none⟩] 3, #[]⟩) E ⟨h0, g, d, t, os⟩ := by
  refine x_call (x_code ?_) (fun e => by cases e)
  refine e_pure ⟨by kernel_rfl, x_code ?_⟩
  rw [tc_b]
  refine e_bindp () (by kernel_rfl) ?_
  refine e_bindp [.type "type", .type "object"] (by kernel_rfl) ?_
  refine e_bindp (some "type.__new__") (by kernel_rfl) ?_
  refine e_call ?_
  refine x_call (x_code ?_) (fun e => by cases e)
  refine e_eq (m' := .pure (.again (.builtin "type.__new__" ⟨[.type "type", .str nmK t0, .ref B, .ref Nd], []⟩))) (by kernel_rfl) ?_
  refine e_pure ?_
  refine ⟨by kernel_rfl, x_code ?_⟩
  rw [tn_b]
  refine wpAny_mono (tnew X hT hB hNd hsl nsm hfi hfl hfg hfe hfle hfge hsa) ?_ (fun _ _ q => q)
  rintro _ _ ⟨C, N, p, h13, h14, tk, h, tk', rfl, rfl, kp, fr, fr2, fr3, hC, hp, hN⟩
  refine e_pure ?_
  refine e_load hC ?_
  refine e_load hC ?_
  refine e_call ?_
  refine wpAny_mono (x_tinit rfl (X.keeps kp) hC) ?_ (fun _ _ q => q)
  rintro _ _ ⟨_, h2, tk2, rfl, rfl, _, M⟩
  refine e_pure ?_
  refine e_pure ?_
  have k2 : Keep h h2 := fun b o e => M.keep b o e (Bool.or_true _)
  exact ⟨C, N, p, h13, h14, tk, h2, tk2, rfl, rfl, kp.trans k2, fr, fr2, fr3, k2 _ _ hC, k2 _ _ hp, k2 _ _ hN⟩
end Mine
end

section
open PySem PySem.W PySem.W.X PyProof.Rows PySem.Calls
namespace Mine

/-- a class's dict of the known make -/
inductive IsNs (o : Obj) (fi fl p : Addr) : Prop
  | mk (h1 h2 h3 h4 h5 h6 h7 h8 h9 h10 h11 h12 h13 : Int) (t1 t2 t3 t4 t5 t6 t7 t8 t9 t10 t11 t12 t13 : Tok) (v1 v2 v3 v4 v5 v6 v7 v8 : Value) (n : Nat) (e : o = nsObj h1 h2 h3 h4 h5 h6 h7 h8 h9 h10 h11 h12 h13 t1 t2 t3 t4 t5 t6 t7 t8 t9 t10 t11 t12 t13 v1 v2 v3 v4 v5 v6 v7 v8 fi fl p n) : IsNs o fi fl p
inductive IsCode (o : Obj) (nm qn : Str) (ln : Int) : Prop
  | mk (fv : Value) (tb : Addr) (v12 v13 v14 v15 : Value) (n16 : Int) (t0 t1 t2 t18 : Tok) (e : o = codeObj nm qn ln 2 19 fv tb v12 v13 v14 v15 n16 t0 t1 t2 t18) : IsCode o nm qn ln
inductive IsCodeK (o : Obj) (t : Addr) : Prop
  | mk (fv : Value) (n16 : Int) (t0 t1 t2 t18 : Tok) (e : o = codeObj nmK qnK 157 0 0 fv t .none .none .none .none n16 t0 t1 t2 t18) : IsCodeK o t
/-- the class K as it stands in the heap -/
inductive ClsK (h : Heap) (C : Addr) : Prop
  | mk (N T p fi fl ci cl cell : Addr) (oN oi ol oci ocl : Obj) (u1 u2 u3 : Tok)
    (a0 : h.get? C = some (clsObj C N T u1 u2)) (a1 : h.get? N = some oN) (a2 : IsNs oN fi fl p) (a3 : h.get? p = some (dscObj C u3)) (a4 : h.get? fi = some oi) (a5 : (∃ pm, oi = fnObj 2 nmInit qnInit [] pm ci .none)) (a6 : h.get? ci = some oci) (a7 : IsCode oci nmInit qnInit 161) (a8 : h.get? fl = some ol) (a9 : (∃ pm ct, ol = fnObj 3 nmLt qnLt [(nmCmp, cell)] pm cl ct)) (a10 : h.get? cl = some ocl) (a11 : IsCode ocl nmLt qnLt 164) (a12 : h.get? cell = some (cellObj (.ref 151))) : ClsK h C
end Mine
end

section
open PySem PySem.W PySem.W.X PyProof.Rows PySem.Calls
namespace Mine
def prepName : Str := ⟨#[95, 95, 112, 114, 101, 112, 97, 114, 101, 95, 95]⟩
def prepObj : Obj := ⟨.type "builtin_function_or_method", none, .fields #[.builtin "type.__prepare__", .type "type"], #[]⟩
local macro_rules | `(tactic| x_close) => `(tactic| first
  | ((rename Mem _ _ _ _ => D); exact ⟨_, _, _, rfl, rfl, D⟩)
  | exact ⟨0, _, _, rfl, rfl, rfl, Mem.start _⟩)
section
variable {w : World} {h : Heap} {g : Array GenState} {d : Drawn} {t : Nat} {os : OsState} {A : Around} {E : Value → Shared → Prop}
theorem x_prep {prog : Program} (hprog : prog = PySem.Challenge.rw_qh0048_01.row.prog) {t' : Tok} (X : (K1 w.params).In h) :
    wpAny (model prog w) A (.call (.call (.builtin "type.__getattribute__") ⟨[.type "type", .str prepName t'], []⟩) none false [] Sem.pure) (fun r s' => ∃ P h' tk, r = .ok (.ret (.ref P)) ∧ s' = ⟨h', g, d, tk, os⟩ ∧ Mem h h' [] [(P, prepObj)]) E ⟨h, g, d, t, os⟩ := by
  revert X hprog; k_fill; intro hprog X; clear hprog
  x_run
theorem x_prep2 {prog : Program} (hprog : prog = PySem.Challenge.rw_qh0048_01.row.prog) {P B : Addr} {t0 : Tok} (X : (K1 w.params).In h) (hP : h.get? P = some prepObj) :
    wpAny (model prog w) A (.call (.call (.ref P) ⟨[.str nmK t0, .ref B], []⟩) none false [] Sem.pure) (fun r s' => ∃ Nd h' tk, r = .ok (.ret (.ref Nd)) ∧ s' = ⟨h', g, d, tk, os⟩ ∧ Mem h h' [] [(Nd, ⟨.type "dict", none, .dict #[] 0, #[]⟩)]) E ⟨h, g, d, t, os⟩ := by
  revert X hprog; k_fill; intro hprog X; clear hprog
  simp only [prepObj] at hP
  x_run
end
end Mine
end

section
open PySem PySem.W PySem.W.X PyProof.Rows PySem.Calls
namespace Mine
/-- a code table: an object without a class -/
def isTab (o : Obj) : Bool := match o.cls, o.data with | .none, .fields _ => true | _, _ => false
def isCd (o : Obj) : Bool := match o.cls, o.data with | .type n, .fields _ => n == "code" | _, _ => false
/-- all but the code tables stand -/
def KeepB (h h' : Heap) : Prop := ∀ b o, isTab o = false → h.get? b = some o → h'.get? b = some o
theorem KeepB.refl (h : Heap) : KeepB h h := fun _ _ _ e => e
theorem KeepB.trans {h h' h'' : Heap} (a : KeepB h h') (b : KeepB h' h'') : KeepB h h'' := fun x o q e => b x o q (a x o q e)
theorem Keep.toB {h h' : Heap} (a : Keep h h') : KeepB h h' := fun b o _ e => a b o e
/-- the code tables and codes stand -/
def KeepC (h h' : Heap) : Prop := ∀ b o, (isTab o = true ∨ isCd o = true) → h.get? b = some o → h'.get? b = some o
theorem Keep.toC {h h' : Heap} (a : Keep h h') : KeepC h h' := fun b o _ e => a b o e
def flatT (ts : List (Int × Int × Value)) : List Value := ts.flatMap fun e => [.int e.1 0, .int e.2.1 0, e.2.2]
def tabO (ts : List (Int × Int × Value)) : Obj := ⟨.none, none, .fields (flatT ts).toArray, #[]⟩
theorem among_tab (pos : Pos) : ∀ ts, codeAmong pos (flatT ts) = (ts.find? fun e => e.1 == (pos.line : Int) && e.2.1 == (pos.col : Int)).map (·.2.2)
  | [] => rfl
  | e :: ts => by
    show (if (e.1 == (pos.line : Int) && e.2.1 == (pos.col : Int)) = true then some e.2.2 else codeAmong pos (flatT ts)) = _
    rw [among_tab pos ts, List.find?_cons]
    cases (e.1 == (pos.line : Int) && e.2.1 == (pos.col : Int)) <;> rfl
theorem flat_snoc (ts : List (Int × Int × Value)) (a b : Int) (c : Value) : flatT (ts ++ [(a, b, c)]) = flatT ts ++ [.int a 0, .int b 0, c] := by
  unfold flatT; rw [List.flatMap_append]; rfl
theorem tab_mem {pos : Pos} {ts : List (Int × Int × Value)} {c : Value} (e : codeAmong pos (flatT ts) = some c) : ((pos.line : Int), (pos.col : Int), c) ∈ ts := by
  rw [among_tab] at e
  cases q : ts.find? (fun e => e.1 == (pos.line : Int) && e.2.1 == (pos.col : Int)) with
  | none => rw [q] at e; cases e
  | some x =>
    rw [q] at e
    have hp := List.find?_some q
    have hm := List.mem_of_find?_eq_some q
    simp only [Bool.and_eq_true, beq_iff_eq] at hp
    obtain ⟨a, b, v⟩ := x
    cases e
    obtain ⟨h1, h2⟩ := hp
    dsimp only at h1 h2
    rw [h1, h2] at hm
    exact hm
/-- the heap in which the law starts: its code tables, but the one of cmp_to_key, are never written -/
structure Base where
  h : Heap
variable [Inhabited Base]
def theBase : Heap := (default : Base).h
/-- no code table of the start -/
def NB (T : Addr) : Prop := ∀ o, theBase.get? T = some o → isTab o = false
/-- the code tables of the start stand, but the one of cmp_to_key -/
def Bs (h : Heap) : Prop := ∀ b o, isTab o = true → b ≠ 111 → theBase.get? b = some o → h.get? b = some o
def GoodM (h : Heap) (e : Int × Int × Value) : Prop := ∃ a o, e.2.2 = .ref a ∧ h.get? a = some o ∧ isCd o = true ∧ (e.1 = 161 → IsCode o nmInit qnInit 161) ∧ (e.1 = 164 → IsCode o nmLt qnLt 164)
def TabOk (h : Heap) (T : Addr) : Prop := ∃ ts, h.get? T = some (tabO ts) ∧ ∀ e ∈ ts, GoodM h e
def ClsC (h : Heap) (c T : Addr) : Prop := ∃ o, h.get? c = some o ∧ IsCodeK o T ∧ (T ≠ 111 ∧ NB T) ∧ TabOk h T
def Tb (h : Heap) : Prop := ∃ ts, h.get? 111 = some (tabO ts) ∧ (∀ e ∈ ts, ∃ c T, e.2.2 = .ref c ∧ ClsC h c T) ∧ Bs h
theorem isTab_tab (ts : List (Int × Int × Value)) : isTab (tabO ts) = true := rfl
theorem isCdK_of {o : Obj} {T : Addr} (x : IsCodeK o T) : isCd o = true := by obtain ⟨_, _, _, _, _, _, rfl⟩ := x; rfl
section
variable {h h' : Heap} {c T T' : Addr}
theorem GoodM.mono {e : Int × Int × Value} (x : GoodM h e) (k : KeepC h h') : GoodM h' e := let ⟨a, o, h1, h2, h3, r⟩ := x; ⟨a, o, h1, k a o (.inr h3) h2, h3, r⟩
theorem TabOk.mono (x : TabOk h T) (k : KeepC h h') : TabOk h' T := let ⟨ts, h1, h2⟩ := x; ⟨ts, k _ _ (.inl rfl) h1, fun e he => (h2 e he).mono k⟩
theorem ClsC.mono (x : ClsC h c T) (k : KeepC h h') : ClsC h' c T := let ⟨o, h1, h2, h3, h4⟩ := x; ⟨o, k _ _ (.inr (isCdK_of h2)) h1, h2, h3, h4.mono k⟩
theorem Bs.mono (x : Bs h) (k : KeepC h h') : Bs h' := fun b o q n e => k b o (.inl q) (x b o q n e)
theorem Tb.mono (x : Tb h) (k : KeepC h h') : Tb h' := let ⟨ts, h1, h2, h5⟩ := x; ⟨ts, k _ _ (.inl rfl) h1, fun e he => let ⟨c, T, h3, h4⟩ := h2 e he; ⟨c, T, h3, h4.mono k⟩, h5.mono k⟩
/-- one table alone is written -/
def KeepT (T : Addr) (h h' : Heap) : Prop := ∀ b o, b ≠ T → h.get? b = some o → h'.get? b = some o
theorem Bs.monoT (x : Bs h) (k : KeepT T h h') (n : T = 111 ∨ NB T) : Bs h' := fun b o q nb e => k b o (fun z => by
  rcases n with rfl | n
  · exact nb z
  · rw [z] at e; have := n o e; rw [q] at this; cases this) (x b o q nb e)
theorem NB.fresh (x : Bs h) (n : T ≠ 111) (e : h.get? T = none) : NB T := fun o e2 => by
  cases q : isTab o with
  | false => rfl
  | true => rw [x T o q n e2] at e; cases e
theorem cd_ne {a : Addr} {o : Obj} {ts : List (Int × Int × Value)} (e : h.get? a = some o) (q : isCd o = true) (z : h.get? T = some (tabO ts)) : a ≠ T := by
  rintro rfl; rw [z] at e; cases e; cases q
theorem GoodM.monoT {e : Int × Int × Value} {ts : List (Int × Int × Value)} (x : GoodM h e) (k : KeepT T h h') (z : h.get? T = some (tabO ts)) : GoodM h' e :=
  let ⟨a, o, h1, h2, h3, r⟩ := x; ⟨a, o, h1, k a o (cd_ne h2 h3 z) h2, h3, r⟩
theorem TabOk.monoT {ts ts' : List (Int × Int × Value)} (x : TabOk h T') (k : KeepT T h h') (z : h.get? T = some (tabO ts)) (z' : h'.get? T = some (tabO ts')) (g : ∀ e ∈ ts', GoodM h' e) : TabOk h' T' := by
  by_cases q : T' = T
  · subst q; exact ⟨ts', z', g⟩
  · obtain ⟨t2, h1, h2⟩ := x; exact ⟨t2, k _ _ q h1, fun e he => (h2 e he).monoT k z⟩
theorem ClsC.monoT {ts ts' : List (Int × Int × Value)} (x : ClsC h c T') (k : KeepT T h h') (z : h.get? T = some (tabO ts)) (z' : h'.get? T = some (tabO ts')) (g : ∀ e ∈ ts', GoodM h' e) : ClsC h' c T' :=
  let ⟨o, h1, h2, h3, h4⟩ := x; ⟨o, k _ _ (cd_ne h1 (isCdK_of h2) z) h1, h2, h3, h4.monoT k z z' g⟩
theorem Tb.monoT {ts ts' : List (Int × Int × Value)} (x : Tb h) (k : KeepT T h h') (n : T ≠ 111 ∧ NB T) (z : h.get? T = some (tabO ts)) (z' : h'.get? T = some (tabO ts')) (g : ∀ e ∈ ts', GoodM h' e) : Tb h' :=
  let ⟨t2, h1, h2, h5⟩ := x; ⟨t2, k _ _ (fun e => n.1 e.symm) h1, fun e he => let ⟨c, T, h3, h4⟩ := h2 e he; ⟨c, T, h3, h4.monoT k z z' g⟩, h5.monoT k (.inr n.2)⟩
theorem ClsC.mono111 {ts : List (Int × Int × Value)} (x : ClsC h c T) (k : KeepT 111 h h') (z : h.get? 111 = some (tabO ts)) : ClsC h' c T :=
  let ⟨o, h1, h2, h3, t2, h4, h5⟩ := x; ⟨o, k _ _ (cd_ne h1 (isCdK_of h2) z) h1, h2, h3, t2, k _ _ h3.1 h4, fun e he => (h5 e he).monoT k z⟩
end

/-- what a run of steps has left -/
structure Mt (I : Heap → Prop) (h₀ h : Heap) (news : List (Addr × Obj)) : Prop where
  keep : KeepB h₀ h
  al : ∀ b, h.get? b = none → h₀.get? b = none
  nw : ∀ p ∈ news, h.get? p.1 = some p.2
  fr : ∀ p ∈ news, h₀.get? p.1 = none
  nd : (news.map (·.1)).Nodup
  inv : I h
  st : ∀ g g', KeepC g g' → I g → I g'
section
variable {I : Heap → Prop} {h₀ h h' : Heap} {news : List (Addr × Obj)}
theorem Mt.start (i : I h) (st : ∀ g g', KeepC g g' → I g → I g') : Mt I h h [] :=
  ⟨KeepB.refl _, fun _ e => e, (fun p hp => (by cases hp)), (fun p hp => (by cases hp)), List.nodup_nil, i, st⟩
theorem Mt.at (D : Mt I h₀ h news) (i : Nat) (a : Addr) (o : Obj) (hi : news[i]? = some (a, o)) : h.get? a = some o := D.nw _ (List.mem_of_getElem? hi)
theorem Mt.frAt (D : Mt I h₀ h news) (i : Nat) (a : Addr) (o : Obj) (hi : news[i]? = some (a, o)) : h₀.get? a = none := D.fr _ (List.mem_of_getElem? hi)
theorem al_of {g g' : Heap} (k : Keep g g') : ∀ b, g'.get? b = none → g.get? b = none := fun b e => by
  cases q : g.get? b with
  | none => rfl
  | some o => rw [k _ _ q] at e; cases e
theorem Mt.grow (D : Mt I h₀ h news) {n' : List (Addr × Obj)} (kp : Keep h h') (M : ∀ p ∈ n', h'.get? p.1 = some p.2 ∧ h.get? p.1 = none) (nd : (n'.map (·.1)).Nodup) : Mt I h₀ h' (n' ++ news) := by
  refine ⟨fun b o hb e => kp b o (D.keep b o hb e), fun b e => D.al b (al_of kp b e), fun p hp => ?_, fun p hp => ?_, ?_, D.st _ _ (Keep.toC kp) D.inv, D.st⟩
  · rcases List.mem_append.mp hp with z | z
    · exact (M p z).1
    · exact kp _ _ (D.nw p z)
  · rcases List.mem_append.mp hp with z | z
    · exact D.al _ (M p z).2
    · exact D.fr p z
  · rw [List.map_append]
    refine List.nodup_append.mpr ⟨nd, D.nd, fun a ha b hb e => ?_⟩
    obtain ⟨p, hp, rfl⟩ := List.mem_map.mp ha
    obtain ⟨q, hq, rfl⟩ := List.mem_map.mp hb
    have z := (M p hp).2
    rw [e, D.nw q hq] at z; cases z
theorem Mt.add (D : Mt I h₀ h news) {n' : List (Addr × Obj)} (M : Mem h h' [] n') : Mt I h₀ h' (n' ++ news) :=
  D.grow (fun b o e => M.keep b o e (Bool.or_true _)) M.nw (M.ord.imp fun z => Nat.ne_of_gt z)
theorem Mt.alloc (D : Mt I h₀ h news) {o : Obj} (hf : o.isFreed = false) : Mt I h₀ (h.push o) ((h.objs.size, o) :: news) := D.add ((Mem.start h).alloc hf)
def plainO (o : Obj) : Bool := match o.cls with | .type n => !(n == "code") | _ => false
theorem plainO_of {o : Obj} (e : plainO o = true) : isTab o = false ∧ isCd o = false := by
  unfold plainO at e
  split at e
  · rename_i n q
    refine ⟨by unfold isTab; rw [q], ?_⟩
    unfold isCd; rw [q]
    split
    · rename_i n' _ e1 _; cases e1; exact (Bool.not_eq_true' _).mp e
    · rfl
  · cases e
theorem Mt.update (D : Mt I h₀ h news) {i : Nat} {a : Addr} {o : Obj} {f : Obj → Obj} (hi : news[i]? = some (a, o)) (hp : plainO o = true) (hf : (f o).isFreed = false) : Mt I h₀ (h.update a f) (news.set i (a, f o)) := by
  have hs : Heap.SameBut a h (h.update a f) := Heap.SameBut.update ..
  have ge : (h.update a f).get? a = some (f o) := Heap.get?_update_self f (D.at i a o hi) hf
  have ha : h₀.get? a = none := D.fr _ (List.mem_of_getElem? hi)
  refine ⟨fun b o' q e => (hs.2 b ?_).trans (D.keep b o' q e), fun b e => D.al b ?_, fun p hp => ?_, fun p hp => ?_, (keys_set (o' := f o) hi) ▸ D.nd, D.st _ _ (fun b o' q e => (hs.2 b ?_).trans e) D.inv, D.st⟩
  · rintro rfl; rw [ha] at e; cases e
  · by_cases q : b = a
    · subst q; rw [ge] at e; cases e
    · rwa [hs.2 b q] at e
  · rcases nodup_split D.nd hi p hp with rfl | z
    · exact ge
    · exact (hs.2 _ z.2).trans (D.nw p z.1)
  · rcases nodup_split D.nd hi p hp with rfl | z
    · exact ha
    · exact D.fr p z.1
  · rintro rfl
    rw [D.at i _ o hi] at e
    cases e
    obtain ⟨h1, h2⟩ := plainO_of hp
    rcases q with q | q
    · rw [h1] at q; cases q
    · rw [h2] at q; cases q
theorem Mt.ne_old (D : Mt I h₀ h news) (i : Nat) (a : Addr) (o : Obj) (hi : news[i]? = some (a, o)) (b : Addr) (ob : Obj) (e : h₀.get? b = some ob) : a ≠ b := by
  rintro rfl
  have := D.fr _ (List.mem_of_getElem? hi)
  rw [show h₀.get? a = none from this] at e; cases e
theorem Mt.drop (D : Mt I h₀ h news) {n' : List (Addr × Obj)} (hs : n'.Sublist news) : Mt I h₀ h n' :=
  ⟨D.keep, D.al, fun p hp => D.nw p (hs.subset hp), fun p hp => D.fr p (hs.subset hp), (hs.map _).nodup D.nd, D.inv, D.st⟩
theorem Mt.perm (D : Mt I h₀ h news) {n' : List (Addr × Obj)} (p : news.Perm n') : Mt I h₀ h n' :=
  ⟨D.keep, D.al, fun x hp => D.nw x (p.mem_iff.mpr hp), fun x hp => D.fr x (p.mem_iff.mpr hp), (p.map _).nodup_iff.mp D.nd, D.inv, D.st⟩
theorem Mt.inv' (D : Mt I h₀ h news) {J : Heap → Prop} (j : J h) (st : ∀ g g', KeepC g g' → J g → J g') : Mt J h₀ h news := ⟨D.keep, D.al, D.nw, D.fr, D.nd, j, st⟩
end
section
variable {α : Type} {prog : Program} {w : World} {A : Around} {E : Value → Shared → Prop} {Q : α → Shared → Prop} {I : Heap → Prop} {h₀ h : Heap} {g : Array GenState} {d : Drawn} {t : Nat} {os : OsState} {news : List (Addr × Obj)}
theorem t_alloc {o : Obj} {k : Addr → Sem α} (D : Mt I h₀ h news) (o' : Obj) (ho : o = o') (hf : o'.isFreed = false)
    (x : ∀ a h', Mt I h₀ h' ((a, o') :: news) → wpAny (model prog w) A (k a) Q E ⟨h', g, d, t, os⟩) : wpAny (model prog w) A (.alloc o k) Q E ⟨h, g, d, t, os⟩ :=
  wpAny_bind (m := alloc o) (f := k) (wpAny_alloc (x _ _ (by subst ho; exact D.alloc hf)))
theorem t_update {a : Addr} {q : Option Value} {f : Obj → Obj} {k : Unit → Sem α} {o : Obj} (D : Mt I h₀ h news) (i : Nat) (o' : Obj) (hi : news[i]? = some (a, o)) (hp : plainO o = true) (ho : f o = o')
    (hf : o'.isFreed = false) (x : ∀ h', Mt I h₀ h' (news.set i (a, o')) → wpAny (model prog w) A (k ()) Q E ⟨h', g, d, t, os⟩) : wpAny (model prog w) A (.update a q f k) Q E ⟨h, g, d, t, os⟩ :=
  wpAny_bind (m := updatePart a q f) (f := k) (wpAny_updatePart (D.at i a o hi) (x _ (by subst ho; exact D.update hi hp hf)))
theorem tN {a : Addr} {q : Option Value} {k : Unit → Sem α} {o : Obj} {nm : Str} {hv : Int} {key v : Value} (i : Nat) (D : Mt I h₀ h news) (o' : Int → Obj) (hi : news[i]? = some (a, o)) (hp : plainO o = true) (ho : ∀ x, Obj.putName nm x key v o = o' x) (hf : ∀ x, (o' x).isFreed = false)
    (x : ∀ hx h', Mt I h₀ h' (news.set i (a, o' hx)) → wpAny (model prog w) A (k ()) Q E ⟨h', g, d, t, os⟩) : wpAny (model prog w) A (.update a q (Obj.putName nm hv key v) k) Q E ⟨h, g, d, t, os⟩ := t_update D i (o' hv) hi hp (ho hv) (hf hv) (x hv)
end
theorem lkmem {a : Addr} {o : Obj} : ∀ {l : List (Addr × Obj)}, l.lookup a = some o → (a, o) ∈ l
  | [], e => by cases e
  | (b, p) :: l, e => by
    rw [List.lookup_cons] at e
    split at e
    · rename_i q; cases e; rw [beq_iff_eq.mp q]; exact .head _
    · exact .tail _ (lkmem e)
/-- the heap less its code tables -/
def holeO (o : Obj) : Obj := if isTab o = true then { o with data := .freed } else o
def hole (h : Heap) : Heap := ⟨h.objs.map holeO, h.life⟩
theorem hole_size (h : Heap) : (hole h).objs.size = h.objs.size := by unfold hole; simp
theorem hole_get {h : Heap} {a : Addr} {o : Obj} : (hole h).get? a = some o ↔ h.get? a = some o ∧ isTab o = false := by
  unfold hole Heap.get?
  dsimp only
  rw [Array.getElem?_map]
  cases e : h.objs[a]? with
  | none => simp
  | some x =>
    obtain ⟨c, dd, dt, sl⟩ := x
    cases q : isTab ⟨c, dd, dt, sl⟩ with
    | false =>
      rw [Option.map_some, show holeO ⟨c, dd, dt, sl⟩ = ⟨c, dd, dt, sl⟩ from by unfold holeO; rw [q]; rfl]
      constructor
      · intro z; refine ⟨z, ?_⟩
        split at z
        · cases z
        · cases z; exact q
      · exact fun z => z.1
    | true =>
      rw [Option.map_some, show holeO ⟨c, dd, dt, sl⟩ = ⟨c, dd, .freed, sl⟩ from by unfold holeO; rw [q]; rfl]
      constructor
      · intro z; cases z
      · rintro ⟨z, z2⟩
        split at z
        · cases z
        · cases z; rw [q] at z2; cases z2
theorem hole_keep {h h' : Heap} (k : KeepB h h') : Keep (hole h) (hole h') := fun b o e => by
  obtain ⟨e1, e2⟩ := hole_get.mp e
  exact hole_get.mpr ⟨k b o e2 e1, e2⟩
theorem hole_in (h : Heap) : Keep (hole h) h := fun b o e => (hole_get.mp e).1
theorem keep_hole {h h' : Heap} (k : Keep (hole h) h') : KeepB h h' := fun b o e1 e2 => k b o (hole_get.mpr ⟨e2, e1⟩)
/-- the facts of the text's top, of all but the code tables -/
def CxB (w : World) (h : Heap) : Prop := Cx w (hole h)
theorem CxB.cx {w : World} {h : Heap} (C : CxB w h) : Cx w h := Cx.keeps C (hole_in h)
theorem CxB.keeps {w : World} {h h' : Heap} (C : CxB w h) (k : KeepB h h') : CxB w h' := Cx.keeps C (hole_keep k)
theorem Cx.toB {w : World} {h : Heap} (C : Cx w h) : CxB w h := by
  obtain ⟨X, loose, mean, mg, mb, T⟩ := C
  have kd : ∀ {b o es ep}, h.get? b = some o → o.data = Data.dict es ep → (hole h).get? b = some o := fun {b o es ep} e q => hole_get.mpr ⟨e, by
    unfold isTab; split
    · rename_i e2; rw [q] at e2; cases e2
    · rfl⟩
  have kn : ∀ {b m}, h.Ns b m → (hole h).Ns b m := fun {b m} ⟨o, es, ep, h1, h2, r⟩ => ⟨o, es, ep, kd h1 h2, h2, r⟩
  have ka : (K1 w.params).all (fun p => !isTab p.2) = true := by kernel_rfl
  refine ⟨fun a o e => hole_get.mpr ⟨X a o e, ?_⟩, loose, mean, mg, mb, ⟨kn T.g, kn T.b, let ⟨mc, h1, h2⟩ := T.nolimit; ⟨mc, kn h1, h2⟩, let ⟨mc, h1, h2⟩ := T.nodigits; ⟨mc, kn h1, h2⟩, fun d hd => (by cases hd), fun o ho => (by cases ho), T.const, T.free, T.builtins, fun d hd => (by cases hd), ?_, fun hi => (by cases hi)⟩⟩
  · have := List.all_eq_true.mp ka (a, o) (lkmem e)
    exact (Bool.not_eq_true' _).mp this
  · obtain ⟨bm, ob, h1, h2, h3, h4, h5, h6⟩ := T.bmain
    exact ⟨bm, ob, h1, h2, hole_get.mpr ⟨h3, by unfold isTab; rw [h4]⟩, h4, h5, h6⟩
end Mine
end

section
open PySem PySem.W PySem.W.X PyProof.Rows PySem.Calls
namespace Mine
variable [Inhabited Base]
theorem new_none {h : Heap} {a : Addr} (hl : h.objs.size ≤ a) : h.get? a = none := by
  cases q : h.get? a with
  | none => rfl
  | some o => exact absurd (Heap.lt_size q) (Nat.not_lt.mpr hl)
def fileS : Str := (⟨#[47, 99, 108, 97, 105, 109, 47, 99, 117, 116, 46, 112, 121]⟩ : Str)
/-- a code object, as newCode lays it -/
def cdO (nm qn : Str) (ln argc flags : Int) (fv : Value) (tb : Addr) (v13 v14 v15 : Value) (n16 : Int) (t0 t1 t2 t18 : Tok) : Obj := codeObj nm qn ln argc flags fv tb .none v13 v14 v15 n16 t0 t1 t2 t18
section
variable {w : World} {A : Around} {E : Value → Shared → Prop} {Q : Value → Shared → Prop} {h : Heap} {g : Array GenState} {d : Drawn} {t : Nat} {os : OsState}
theorem newCode_fn {nm qn : Str} {ln argc flags : Nat} {free : List Str} {locals : Option (List Str × List Str)} {fd : FuncData}
    (hQ : ∀ a h' tk fv tb v13 v14 v15 n16 t0 t1 t2 t18, Keep h h' → h.get? a = none → h'.get? a = some (cdO nm qn ln argc flags fv tb v13 v14 v15 n16 t0 t1 t2 t18) → Q (.ref a) ⟨h', g, d, tk, os⟩) :
    wpAny (model PySem.Challenge.rw_qh0048_01.row.prog w) A (newCode { file := fileS, future := 0, inFunction := true, text := 181 } nm qn ln argc 0 0 flags free true none locals (some fd)) Q E ⟨h, g, d, t, os⟩ := by
  unfold newCode
  iterate 3 refine wpAny_bind (wpAny_mkText ?_)
  refine wpAny_bind (wpAny_mkStrs fun fs => ?_)
  refine wpAny_bind (wpAny_newObjAsIs_type ?_)
  refine wpAny_bind (wpAny_alloc ?_)
  cases locals with
  | none =>
    iterate 2 refine wpAny_bind (wpAny_pure ?_)
    refine wpAny_bind (wpAny_alloc ?_)
    refine wpAny_bind (wpAny_pure ?_)
    refine wpAny_bind (wpAny_fresh ?_)
    refine wpAny_bind (wpAny_mkText ?_)
    refine wpAny_newObj_type ?_ (by size_fits)
    refine hQ _ _ _ _ _ _ _ _ _ _ _ _ _ (fun b o e => Heap.get?_push_of_some _ (Heap.get?_push_of_some _ (Heap.get?_push_of_some _ (Heap.get?_push_of_some _ e)))) ?_ (Heap.get?_push_size _ rfl)
    refine new_none ?_; dsimp only; simp only [Heap.size_push]; lia
  | some l =>
    iterate 2
      refine wpAny_bind (wpAny_mkStrs fun _ => ?_)
      refine wpAny_bind (wpAny_newObjAsIs_type ?_)
    refine wpAny_bind (wpAny_alloc ?_)
    refine wpAny_bind (wpAny_pure ?_)
    refine wpAny_bind (wpAny_fresh ?_)
    refine wpAny_bind (wpAny_mkText ?_)
    refine wpAny_newObj_type ?_ (by size_fits)
    refine hQ _ _ _ _ _ _ _ _ _ _ _ _ _ (fun b o e => Heap.get?_push_of_some _ (Heap.get?_push_of_some _ (Heap.get?_push_of_some _ (Heap.get?_push_of_some _ (Heap.get?_push_of_some _ (Heap.get?_push_of_some _ e)))))) ?_ (Heap.get?_push_size _ rfl)
    refine new_none ?_; dsimp only; simp only [Heap.size_push]; lia
theorem newCode_cls {nm qn : Str} {ln : Nat} {free : List Str}
    (hQ : ∀ a tb h' tk fv n16 t0 t1 t2 t18, Keep h h' → h.get? a = none → h.get? tb = none → h'.get? tb = some (tabO []) → h'.get? a = some (cdO nm qn ln 0 0 fv tb .none .none .none n16 t0 t1 t2 t18) → Q (.ref a) ⟨h', g, d, tk, os⟩) :
    wpAny (model PySem.Challenge.rw_qh0048_01.row.prog w) A (newCode { file := fileS, future := 0, inFunction := true, text := 181 } nm qn ln 0 0 0 0 free false) Q E ⟨h, g, d, t, os⟩ := by
  unfold newCode
  iterate 3 refine wpAny_bind (wpAny_mkText ?_)
  refine wpAny_bind (wpAny_mkStrs fun fs => ?_)
  refine wpAny_bind (wpAny_newObjAsIs_type ?_)
  refine wpAny_bind (wpAny_alloc ?_)
  iterate 3 refine wpAny_bind (wpAny_pure ?_)
  refine wpAny_bind (wpAny_fresh ?_)
  refine wpAny_bind (wpAny_mkText ?_)
  refine wpAny_newObj_type ?_ (by size_fits)
  refine hQ _ _ _ _ _ _ _ _ _ _ (fun b o e => Heap.get?_push_of_some _ (Heap.get?_push_of_some _ (Heap.get?_push_of_some _ e))) ?_ ?_ ?_ (Heap.get?_push_size _ rfl)
  · refine new_none ?_; dsimp only; simp only [Heap.size_push]; lia
  · refine new_none ?_; dsimp only; simp only [Heap.size_push]; lia
  · exact Heap.get?_push_of_some _ (Heap.get?_push_size _ rfl)

/-- codeAt over a table whose every code is good -/
theorem codeAt_rule {env : Env} {cc T : Addr} {pos : Pos} {make : CodeContext → Sem Value} {vs : Array Value} {oc : Obj} {tf tg tt : Tok} {inF : Bool} {fl : Int} {ts : List (Int × Int × Value)} (P : Heap → Int × Int × Value → Prop)
    (hc : env.code = .ref cc) (ho : h.get? cc = some oc) (hd : oc.data = .fields vs) (h11 : vs.getD 11 .none = .ref T) (h18 : vs.getD 18 .none = .str fileS tf) (h7 : vs.getD 7 .none = .int fl tg) (hfu : fl.toNat &&& (coFutureAnnotations ||| coFutureBarry) = 0)
    (h9 : vs.getD 9 .none = .bool inF) (h10 : vs.getD 10 .none = .int 181 tt) (hin : (inF || env.scope.kind == .function) = true)
    (hT : h.get? T = some (tabO ts)) (hP : ∀ e ∈ ts, P h e)
    (hit : ∀ v, P h ((pos.line : Int), (pos.col : Int), v) → Q v ⟨h, g, d, t, os⟩)
    (hm : wpAny (model PySem.Challenge.rw_qh0048_01.row.prog w) A (make { file := fileS, future := 0, inFunction := true, text := 181 }) (fun v s' => ∃ h1 tk, s' = ⟨h1, g, d, tk, os⟩ ∧ Keep h h1 ∧
      ∀ h2, h2.get? T = some (tabO (ts ++ [((pos.line : Int), (pos.col : Int), v)])) → (∀ b, h2.get? b = none → h1.get? b = none) → KeepT T h1 h2 → Q v ⟨h2, g, d, tk, os⟩) E ⟨h, g, d, t, os⟩) :
    wpAny (model PySem.Challenge.rw_qh0048_01.row.prog w) A (codeAt env pos make) Q E ⟨h, g, d, t, os⟩ := by
  unfold codeAt
  rw [hc, if_neg (show ¬ ((Value.ref cc == Value.none) = true) from Bool.false_ne_true)]
  refine wpAny_bind (wpAny_fieldsOf ho hd ?_)
  rw [h11]
  refine wpAny_bind (wpAny_fieldsOf hT (vs := (flatT ts).toArray) rfl ?_)
  rw [List.toList_toArray]
  cases q : codeAmong pos (flatT ts) with
  | some c =>
    exact wpAny_pure (hit c (hP _ (tab_mem q)))
  | none =>
    dsimp only
    rw [h18, h7, h9, h10]
    dsimp only
    rw [hin, hfu]
    refine wpAny_bind (wpAny_mono hm ?_ fun _ _ e => e)
    rintro v _ ⟨h1, tk, rfl, k1, k⟩
    have hT1 := k1 _ _ hT
    refine wpAny_bind (wpAny_updateFieldsOfTheText hT1 (vs := (flatT ts).toArray) rfl ?_)
    have hnew : (Obj.mapFields (fun vs => if (codeAmong pos vs.toList).isSome = true then vs else vs ++ #[rawInt pos.line, rawInt pos.col, v]) (tabO ts)) = tabO (ts ++ [((pos.line : Int), (pos.col : Int), v)]) := by
      show (⟨.none, none, .fields (if (codeAmong pos (flatT ts).toArray.toList).isSome = true then (flatT ts).toArray else (flatT ts).toArray ++ #[rawInt pos.line, rawInt pos.col, v]), #[]⟩ : Obj) = _
      rw [List.toList_toArray, q]
      unfold tabO
      rw [flat_snoc]
      simp [rawInt]
    have hget := Heap.get?_update_self (h := h1) (fun o => Obj.mapFields (fun vs => if (codeAmong pos vs.toList).isSome = true then vs else vs ++ #[rawInt pos.line, rawInt pos.col, v]) o) hT1 (by rw [hnew]; rfl)
    rw [hnew] at hget
    have hs : Heap.SameBut T h1 _ := Heap.SameBut.update (h := h1) (a := T) (f := Obj.mapFields fun vs => if (codeAmong pos vs.toList).isSome = true then vs else vs ++ #[rawInt pos.line, rawInt pos.col, v])
    refine wpAny_bind (wpAny_fieldsOf hget (vs := (flatT (ts ++ [((pos.line : Int), (pos.col : Int), v)])).toArray) rfl ?_)
    rw [List.toList_toArray, among_tab, List.find?_append]
    have q2 : ts.find? (fun e => e.1 == (pos.line : Int) && e.2.1 == (pos.col : Int)) = none := by
      rw [among_tab] at q
      cases z : ts.find? (fun e => e.1 == (pos.line : Int) && e.2.1 == (pos.col : Int)) with
      | none => rfl
      | some x => rw [z] at q; cases q
    rw [q2]
    simp only [Option.none_or, List.find?_cons, beq_self_eq_true, Bool.and_self, Option.map_some]
    refine wpAny_pure (k _ hget (fun b e => ?_) (fun b o hb e => (hs.2 b hb).trans e))
    by_cases hb : b = T
    · subst hb; rw [hget] at e; cases e
    · rwa [hs.2 b hb] at e
end
end Mine
end

section
open PySem PySem.W PySem.W.X PyProof.Rows PySem.Calls
namespace Mine
variable [Inhabited Base]
def InvC (c T : Addr) (l : List (Addr × Obj)) (h : Heap) : Prop := Tb h ∧ ClsC h c T ∧ ∀ p ∈ l, h.get? p.1 = some p.2 ∧ isCd p.2 = true
theorem InvC.st {c T : Addr} {l : List (Addr × Obj)} (g g' : Heap) (k : KeepC g g') (x : InvC c T l g) : InvC c T l g' := ⟨x.1.mono k, x.2.1.mono k, fun p hp => ⟨k _ _ (.inr (x.2.2 p hp).2) (x.2.2 p hp).1, (x.2.2 p hp).2⟩⟩
theorem InvC.more {c T : Addr} {l : List (Addr × Obj)} {h : Heap} {a : Addr} {o : Obj} (x : InvC c T l h) (h1 : h.get? a = some o) (h2 : isCd o = true) : InvC c T ((a, o) :: l) h := ⟨x.1, x.2.1, fun p hp => by
  rcases List.mem_cons.mp hp with rfl | q
  · exact ⟨h1, h2⟩
  · exact x.2.2 p q⟩
def noTab (news : List (Addr × Obj)) : Bool := news.all fun p => !isTab p.2
theorem Mt.table {l : List (Addr × Obj)} {c T : Addr} {h0 h h1 h2 : Heap} {news : List (Addr × Obj)} {ts : List (Int × Int × Value)} {e : Int × Int × Value} (D : Mt (InvC c T l) h0 h news) (hn : noTab news = true) (k : Keep h h1) (n : T ≠ 111 ∧ NB T)
    (z : h.get? T = some (tabO ts)) (gs : ∀ e ∈ ts, GoodM h e) (z2 : h2.get? T = some (tabO (ts ++ [e]))) (al : ∀ b, h2.get? b = none → h1.get? b = none) (k2 : KeepT T h1 h2) (ge : GoodM h2 e) : Mt (InvC c T l) h0 h2 news := by
  have D1 : Mt (InvC c T l) h0 h1 ([] ++ news) := D.grow k (fun p hp => by cases hp) List.nodup_nil
  have z1 := k _ _ z
  have g2 : ∀ e' ∈ ts ++ [e], GoodM h2 e' := fun e' he => by
    rcases List.mem_append.mp he with q | q
    · exact ((gs e' q).mono k.toC).monoT k2 z1
    · rw [List.mem_singleton.mp q]; exact ge
  refine ⟨fun b o q e' => k2 b o ?_ (D1.keep b o q e'), fun b e' => D1.al b (al b e'), fun p hp => k2 _ _ ?_ (D1.nw p hp), D.fr, D.nd, ⟨D1.inv.1.monoT k2 n z1 z2 g2, D1.inv.2.1.monoT k2 z1 z2 g2, fun p hp => ⟨k2 _ _ (cd_ne (D1.inv.2.2 p hp).1 (D1.inv.2.2 p hp).2 z1) (D1.inv.2.2 p hp).1, (D1.inv.2.2 p hp).2⟩⟩, InvC.st⟩
  · rintro rfl
    have := D1.keep _ o q e'
    rw [z1] at this; cases this; cases q
  · intro q
    have a := D1.nw p hp
    rw [q, z1] at a
    cases a2 : p.2 with | mk => ?_
    have b := List.all_eq_true.mp hn p hp
    rw [← Option.some.inj a] at b
    cases b
section
variable {w : World} {A : Around} {E : Value → Shared → Prop} {Q : Value → Shared → Prop} {h0 h : Heap} {g : Array GenState} {d : Drawn} {t : Nat} {os : OsState} {news l : List (Addr × Obj)} {c T : Addr}
/-- the code of a def within the class's body -/
theorem fcode {env : Env} {pos : Pos} {ln : Nat} {nm qn : Str} {p : Arguments} {scope : Scope} {body : FuncBody} (D : Mt (InvC c T l) h0 h news) (hn : noTab news = true) (hc : env.code = .ref c)
    (hpo : p.posonlyargs = []) (hko : p.kwonlyargs = [])
    (hg : ∀ o, (∃ fv tb v13 v14 v15 n16 t0 t1 t2 t18, o = cdO nm qn ln (([] : List Arg).length + p.args.length : Nat) (functionFlags p.vararg.isSome p.kwarg.isSome scope { file := fileS, future := 0, inFunction := true, text := 181 } : Nat) fv tb v13 v14 v15 n16 t0 t1 t2 t18) →
      ((pos.line : Int) = 161 → IsCode o nmInit qnInit 161) ∧ ((pos.line : Int) = 164 → IsCode o nmLt qnLt 164))
    (hQ : ∀ a o h' tk, Mt (InvC c T ((a, o) :: l)) h0 h' news → h'.get? a = some o → isCd o = true → ((pos.line : Int) = 161 → IsCode o nmInit qnInit 161) → ((pos.line : Int) = 164 → IsCode o nmLt qnLt 164) → Q (.ref a) ⟨h', g, d, tk, os⟩) :
    wpAny (model PySem.Challenge.rw_qh0048_01.row.prog w) A (functionCode env pos ln nm qn p scope body) Q E ⟨h, g, d, t, os⟩ := by
  obtain ⟨hTb, ⟨oc, hoc, ⟨fv, n16, t0, t1, t2, t18, rfl⟩, hT1, ts, hts, hgs⟩, _⟩ := id D.inv
  unfold functionCode
  refine codeAt_rule GoodM hc hoc (vs := _) rfl rfl rfl rfl rfl rfl rfl rfl hts hgs ?_ ?_
  · rintro v ⟨a, o, rfl, h1, h2, h3, h4⟩
    exact hQ a o h t (D.inv' (D.inv.more h1 h2) InvC.st) h1 h2 h3 h4
  · rw [hpo, hko]
    refine newCode_fn fun a h' tk fv tb v13 v14 v15 n16 t0 t1 t2 t18 k hnone ha => ⟨h', tk, rfl, k, fun h2 z2 al k2 => ?_⟩
    obtain ⟨g1, g2⟩ := hg _ ⟨fv, tb, v13, v14, v15, n16, t0, t1, t2, t18, rfl⟩
    have aT : a ≠ T := by rintro rfl; rw [hts] at hnone; cases hnone
    have ha2 := k2 _ _ aT ha
    have D2 := D.table hn k hT1 hts hgs z2 al k2 ⟨a, _, rfl, ha2, rfl, g1, g2⟩
    exact hQ a _ h2 tk (D2.inv' (D2.inv.more ha2 rfl) InvC.st) ha2 rfl g1 g2
def fobj (nm qn : Str) (args : Arguments) (body : List Stmt) (scope : Scope) (cl : List (Str × Addr)) (pm : Value) (a : Addr) (ct : Value) : Obj :=
  ⟨.type "function", none, .func { name := nm, qualname := qn, params := args, body := .stmts body, scope := scope, globals := 3, closure := cl, defaults := .none, kwdefaults := .none, doc := .none, pyModule := pm, annotations := none, code := .ref a, closureTuple := ct, builtins := 0 }, #[]⟩
theorem mkfn {env : Env} {pos : Pos} {ln : Nat} {nm qn : Str} {p : Arguments} {scope : Scope} {body : List Stmt} {cl : List (Str × Addr)} (C0 : CxB w h0) (D : Mt (InvC c T l) h0 h news) (hn : noTab news = true) (hc : env.code = .ref c) (hgl : env.globals = 3)
    (hpo : p.posonlyargs = []) (hko : p.kwonlyargs = []) (hcl : closureFor scope env = pure cl) (hdoc : docOf body = none)
    (hg : ∀ o, (∃ fv tb v13 v14 v15 n16 t0 t1 t2 t18, o = cdO nm qn ln (([] : List Arg).length + p.args.length : Nat) (functionFlags p.vararg.isSome p.kwarg.isSome scope { file := fileS, future := 0, inFunction := true, text := 181 } : Nat) fv tb v13 v14 v15 n16 t0 t1 t2 t18) →
      ((pos.line : Int) = 161 → IsCode o nmInit qnInit 161) ∧ ((pos.line : Int) = 164 → IsCode o nmLt qnLt 164))
    (hQ : ∀ f a o h' tk pm ct, (cl = [] → ct = .none) → Mt (InvC c T ((a, o) :: l)) h0 h' ((f, fobj nm qn p body scope cl pm a ct) :: news) → h'.get? a = some o → isCd o = true → ((pos.line : Int) = 161 → IsCode o nmInit qnInit 161) → ((pos.line : Int) = 164 → IsCode o nmLt qnLt 164) → Q (.ref f) ⟨h', g, d, tk, os⟩) :
    wpAny (model PySem.Challenge.rw_qh0048_01.row.prog w) A (makeFunction nm qn p (.stmts body) scope env [] [] [] pos ln) Q E ⟨h, g, d, t, os⟩ := by
  unfold makeFunction
  rw [hko]
  refine e_bindp _ rfl ?_
  refine e_bindp _ rfl ?_
  refine e_bindp _ rfl ?_
  refine e_bindp cl hcl ?_
  cases cl with
  | nil =>
    refine e_bindp .none rfl ?_
    refine wpAny_bind (fcode D hn hc hpo hko hg fun a o h' tk D2 ha hcd g1 g2 => ?_)
    obtain ⟨loose, mean, mg, mb, T'⟩ := (C0.keeps D2.keep).cx.t
    obtain ⟨bm, ob, b1, b2, b3, b4, b5, b6⟩ := T'.bmain
    rw [hgl]
    refine wpAny_bind (wpAny_builtinsFor T'.g b1 b2 b3 b4 b5 b6 ?_)
    refine wpAny_bind (wpAny_nsGet T'.g ?_)
    dsimp only
    rw [hdoc]
    refine e_bindp .none rfl ?_
    refine wpAny_newObj_type ?_
    have D3 := D2.alloc (o := fobj nm qn p body scope [] ((mg "__name__").getD .none) a .none) rfl
    exact hQ _ a o _ _ _ .none (fun _ => rfl) D3 (Heap.get?_push_of_some _ ha) hcd g1 g2
  | cons x cl =>
    refine e_bind ?_
    refine wpAny_newObjAsIs_type ?_
    have D1 := (D.alloc (o := { cls := .type "tuple", dict := none, data := .seq (List.map (fun x => Value.ref x.snd) ((x :: cl).mergeSort fun a b => decide (a.fst.cps.toList ≤ b.fst.cps.toList))).toArray }) rfl).drop (List.sublist_cons_self _ _)
    refine wpAny_bind (fcode D1 hn hc hpo hko hg fun a o h' tk D2 ha hcd g1 g2 => ?_)
    obtain ⟨loose, mean, mg, mb, T'⟩ := (C0.keeps D2.keep).cx.t
    obtain ⟨bm, ob, b1, b2, b3, b4, b5, b6⟩ := T'.bmain
    rw [hgl]
    refine wpAny_bind (wpAny_builtinsFor T'.g b1 b2 b3 b4 b5 b6 ?_)
    refine wpAny_bind (wpAny_nsGet T'.g ?_)
    dsimp only
    rw [hdoc]
    refine e_bindp .none rfl ?_
    refine wpAny_newObj_type ?_
    have D3 := D2.alloc (o := fobj nm qn p body scope (x :: cl) ((mg "__name__").getD .none) a (.ref h.objs.size)) rfl
    exact hQ _ a o _ _ _ _ (fun e => by cases e) D3 (Heap.get?_push_of_some _ ha) hcd g1 g2
end
end Mine
end

section
open PySem PySem.W PySem.W.X PyProof.Rows PySem.Calls
namespace Mine
variable [Inhabited Base]
theorem Mt.table111 {h0 h h1 h2 : Heap} {news : List (Addr × Obj)} {ts : List (Int × Int × Value)} {e : Int × Int × Value} {c T : Addr} (D : Mt Tb h0 h news) (hn : noTab news = true) (k : Keep h h1)
    (z : h.get? 111 = some (tabO ts)) (gs : ∀ e ∈ ts, ∃ c T, e.2.2 = .ref c ∧ ClsC h c T) (z2 : h2.get? 111 = some (tabO (ts ++ [e]))) (al : ∀ b, h2.get? b = none → h1.get? b = none) (k2 : KeepT 111 h1 h2) (he : e.2.2 = .ref c) (ge : ClsC h1 c T) : Mt (InvC c T []) h0 h2 news := by
  have D1 : Mt Tb h0 h1 ([] ++ news) := D.grow k (fun p hp => by cases hp) List.nodup_nil
  have z1 := k _ _ z
  have bs : Bs h2 := by obtain ⟨_, _, _, b1⟩ := D1.inv; exact b1.monoT k2 (.inl rfl)
  have g2 : ∀ e' ∈ ts ++ [e], ∃ c T, e'.2.2 = .ref c ∧ ClsC h2 c T := fun e' he' => by
    rcases List.mem_append.mp he' with q | q
    · obtain ⟨c, T, q1, q2⟩ := gs e' q
      exact ⟨c, T, q1, (q2.mono k.toC).mono111 k2 z1⟩
    · rw [List.mem_singleton.mp q]; exact ⟨c, T, he, ge.mono111 k2 z1⟩
  refine ⟨fun b o q e' => k2 b o ?_ (D1.keep b o q e'), fun b e' => D1.al b (al b e'), fun p hp => k2 _ _ ?_ (D1.nw p hp), D.fr, D.nd, ⟨⟨_, z2, g2, bs⟩, ge.mono111 k2 z1, fun p hp => by cases hp⟩, InvC.st⟩
  · rintro rfl
    have := D1.keep _ o q e'
    rw [z1] at this; cases this; cases q
  · intro q
    have a := D1.nw p hp
    rw [q, z1] at a
    have b := List.all_eq_true.mp hn p hp
    rw [← Option.some.inj a] at b
    cases b
section
variable {w : World} {A : Around} {E : Value → Shared → Prop} {Q : Value → Shared → Prop} {h0 h : Heap} {g : Array GenState} {d : Drawn} {t : Nat} {os : OsState} {news : List (Addr × Obj)}
/-- the code of the class -/
theorem ccode {env : Env} {scope : Scope} {e1 e2 : Nat} (C0 : CxB w h0) (D : Mt Tb h0 h news) (hn : noTab news = true) (hc : env.code = .ref 115) (hk : env.scope.kind = .function)
    (hQ : ∀ c T h' tk, Mt (InvC c T []) h0 h' news → Q (.ref c) ⟨h', g, d, tk, os⟩) :
    wpAny (model PySem.Challenge.rw_qh0048_01.row.prog w) A (classCode env ⟨157, 4, e1, e2⟩ 157 nmK qnK scope) Q E ⟨h, g, d, t, os⟩ := by
  obtain ⟨ts, hts, hgs, hbs⟩ := id D.inv
  have h115 := (C0.keeps D.keep).cx.k 115 _ rfl
  unfold classCode
  refine codeAt_rule (fun h e => ∃ c T, e.2.2 = .ref c ∧ ClsC h c T) hc h115 (vs := _) rfl rfl rfl rfl rfl rfl rfl (by rw [hk]; rfl) hts hgs ?_ ?_
  · rintro v ⟨c, T, rfl, hC⟩
    exact hQ c T h t (D.inv' ⟨D.inv, hC, fun p hp => by cases hp⟩ InvC.st)
  · refine newCode_cls fun a tb h' tk fv n16 t0 t1 t2 t18 k hnone hn2 htb ha => ⟨h', tk, rfl, k, fun h2 z2 al k2 => ?_⟩
    have tb1 : tb ≠ 111 := by rintro rfl; rw [hts] at hn2; cases hn2
    exact hQ a tb h2 tk (D.table111 hn k hts hgs z2 al k2 rfl ⟨_, ha, ⟨fv, n16, t0, t1, t2, t18, rfl⟩, ⟨tb1, .fresh hbs tb1 hn2⟩, [], htb, fun e he => by cases he⟩)
end
section
variable {w : World} {A : Around} {E : Value → Shared → Prop} {Q : Flow → Shared → Prop} {h0 h : Heap} {g : Array GenState} {d : Drawn} {t : Nat} {os : OsState} {news l : List (Addr × Obj)} {c T : Addr}
theorem defS {env : Env} {pos : Pos} {nm bd qn : Str} {p : Arguments} {scope : Scope} {body : List Stmt} {cl : List (Str × Addr)} {marked : Stmt} (C0 : CxB w h0) (D : Mt (InvC c T l) h0 h news) (hn : noTab news = true) (hc : env.code = .ref c) (hgl : env.globals = 3)
    (hq : qualnameIn env nm bd = qn) (hpo : p.posonlyargs = []) (hko : p.kwonlyargs = []) (hcl : closureFor scope env = pure cl) (hdoc : docOf body = none)
    (hg : ∀ o, (∃ fv tb v13 v14 v15 n16 t0 t1 t2 t18, o = cdO nm qn pos.line (([] : List Arg).length + p.args.length : Nat) (functionFlags p.vararg.isSome p.kwarg.isSome scope { file := fileS, future := 0, inFunction := true, text := 181 } : Nat) fv tb v13 v14 v15 n16 t0 t1 t2 t18) →
      ((pos.line : Int) = 161 → IsCode o nmInit qnInit 161) ∧ ((pos.line : Int) = 164 → IsCode o nmLt qnLt 164))
    (hQ : ∀ f a o h' tk pm ct, (cl = [] → ct = .none) → Mt (InvC c T ((a, o) :: l)) h0 h' ((f, fobj nm qn p body scope cl pm a ct) :: news) → h'.get? a = some o → isCd o = true → ((pos.line : Int) = 161 → IsCode o nmInit qnInit 161) → ((pos.line : Int) = 164 → IsCode o nmLt qnLt 164) →
      wpAny (model PySem.Challenge.rw_qh0048_01.row.prog w) A (storeName env bd (.ref f)) (fun _ s' => Q .next s') E ⟨h', g, d, tk, os⟩) :
    wpAny (model PySem.Challenge.rw_qh0048_01.row.prog w) A (defStmt nm bd p body scope pos env [] none [] [] ([], []) (fun _ => []) marked) Q E ⟨h, g, d, t, os⟩ := by
  unfold defStmt
  refine e_bindp [] rfl ?_
  refine e_at ?_
  refine e_bindp () rfl ?_
  refine e_bind ?_
  refine wpAny_holding ?_
  refine e_bindp [] rfl ?_
  refine e_bind ?_
  refine wpAny_holding ?_
  refine e_pure ?_
  refine wpAny_holding ?_
  refine e_bindp [] rfl ?_
  rw [hq]
  refine mkfn C0 D hn hc hgl hpo hko hcl hdoc hg fun f a o h' tk pm ct hct D' ha hcd g1 g2 => ?_
  refine e_bindp (.ref f) rfl ?_
  refine e_at ?_
  refine e_bindp () rfl ?_
  unfold bindName
  refine e_bind ?_
  refine e_bind ?_
  refine wpAny_holding ?_
  refine e_point ?_
  refine e_pure ?_
  refine wpAny_bind (wpAny_mono (hQ f a o h' tk pm ct hct D' ha hcd g1 g2) (fun _ s' q => ?_) fun _ _ q => q)
  refine e_point ?_
  exact e_pure (e_pure q)
end
end Mine
end

section
open PySem PySem.W PySem.W.X PyProof.Rows PySem.Calls
namespace Mine
variable [Inhabited Base]
def clsDef : Stmt := (stBody ctkStmt).getD 0 default
def kScope : Scope := match clsDef with | .ClassDef _ _ _ _ _ _ s _ _ _ _ => s | _ => default
def kEnv (c Nd Fm cell : Addr) : Env := { scope := kScope, locals := Nd, globals := 3, qual := qnK ++ ".", code := .ref c, frame := some Fm, builtins := 0, cells := [(nmCmp, cell)] }
theorem kbody {w : World} {A : Around} {E : Value → Shared → Prop} {h0 h : Heap} {g : Array GenState} {d : Drawn} {t : Nat} {os : OsState} {news : List (Addr × Obj)} {c T Nd Fm cell : Addr} {g1 g2 g3 : Int} {k1 k2 k3 tq tn : Tok} {vm : Value} {Q : Flow → Shared → Prop}
  (C0 : CxB w h0) (hn : noTab news = true) (D : Mt (InvC c T []) h0 h ((Nd, ⟨.type "dict", none, .dict #[⟨g1, .str (⟨#[95, 95, 109, 111, 100, 117, 108, 101, 95, 95]⟩ : Str) k1, vm⟩, ⟨g2, .str (⟨#[95, 95, 113, 117, 97, 108, 110, 97, 109, 101, 95, 95]⟩ : Str) k2, .str qnK tq⟩, ⟨g3, .str (⟨#[95, 95, 102, 105, 114, 115, 116, 108, 105, 110, 101, 110, 111, 95, 95]⟩ : Str) k3, .int 157 tn⟩] 3, #[]⟩) :: news))
  (hQ : ∀ fge fle fe fg fl fi sl l h' tk ai al oi ol pmi pml ctl fdge fdle fde fdg sm tm ts g4 g5 g6 g7 g8 g9 g10 g11 k4 k5 k6 k7 k8 k9 k10 k11,
    Mt (InvC c T l) h0 h' ((fge, ⟨.type "function", none, .func fdge, #[]⟩) :: (fle, ⟨.type "function", none, .func fdle, #[]⟩) :: (fe, ⟨.type "function", none, .func fde, #[]⟩) :: (fg, ⟨.type "function", none, .func fdg, #[]⟩) :: (fl, fnObj 3 nmLt qnLt [(nmCmp, cell)] pml al ctl) :: (fi, fnObj 2 nmInit qnInit [] pmi ai .none) :: (sl, ⟨.type "list", none, .seq #[.str nmObj ts] 0, #[]⟩) :: (Nd, ⟨.type "dict", none, .dict #[⟨g1, .str (⟨#[95, 95, 109, 111, 100, 117, 108, 101, 95, 95]⟩ : Str) k1, .str sm tm⟩, ⟨g2, .str (⟨#[95, 95, 113, 117, 97, 108, 110, 97, 109, 101, 95, 95]⟩ : Str) k2, .str qnK tq⟩, ⟨g3, .str (⟨#[95, 95, 102, 105, 114, 115, 116, 108, 105, 110, 101, 110, 111, 95, 95]⟩ : Str) k3, .int 157 tn⟩, ⟨g4, .str (⟨#[95, 95, 115, 108, 111, 116, 115, 95, 95]⟩ : Str) k4, .ref sl⟩, ⟨g5, .str (⟨#[95, 95, 105, 110, 105, 116, 95, 95]⟩ : Str) k5, .ref fi⟩, ⟨g6, .str (⟨#[95, 95, 108, 116, 95, 95]⟩ : Str) k6, .ref fl⟩, ⟨g7, .str (⟨#[95, 95, 103, 116, 95, 95]⟩ : Str) k7, .ref fg⟩, ⟨g8, .str (⟨#[95, 95, 101, 113, 95, 95]⟩ : Str) k8, .ref fe⟩, ⟨g9, .str (⟨#[95, 95, 108, 101, 95, 95]⟩ : Str) k9, .ref fle⟩, ⟨g10, .str (⟨#[95, 95, 103, 101, 95, 95]⟩ : Str) k10, .ref fge⟩, ⟨g11, .str (⟨#[95, 95, 104, 97, 115, 104, 95, 95]⟩ : Str) k11, .none⟩] 11, #[]⟩) :: news) → (ai, oi) ∈ l → IsCode oi nmInit qnInit 161 → (al, ol) ∈ l → IsCode ol nmLt qnLt 164 → Q .next ⟨h', g, d, tk, os⟩) :
  wpAny (model PySem.Challenge.rw_qh0048_01.row.prog w) A (execs (stBody clsDef) (kEnv c Nd Fm cell)) Q E ⟨h, g, d, t, os⟩ := by
  refine wpAny_execs_cons ?_
  rw [arm_exec_Assign]
  refine e_at ?_
  refine e_fresh ?_
  refine e_at ?_
  refine e_point ?_
  refine e_load (D.at 0 _ _ rfl) ?_
  refine e_ask ?_
  refine e_fresh ?_
  refine e_load (D.at 0 _ _ rfl) ?_
  refine tN 0 D (fun _ => ⟨.type "dict", none, .dict #[⟨g1, .str (⟨#[95, 95, 109, 111, 100, 117, 108, 101, 95, 95]⟩ : Str) k1, .str (⟨#[99, 112, 121, 51, 49, 51, 46, 102, 117, 110, 99, 116, 111, 111, 108, 115]⟩ : Str) t⟩, ⟨g2, .str (⟨#[95, 95, 113, 117, 97, 108, 110, 97, 109, 101, 95, 95]⟩ : Str) k2, .str qnK tq⟩, ⟨g3, .str (⟨#[95, 95, 102, 105, 114, 115, 116, 108, 105, 110, 101, 110, 111, 95, 95]⟩ : Str) k3, .int 157 tn⟩] 3, #[]⟩) rfl rfl (fun x => by kernel_rfl) (fun _ => rfl) fun _ h D => ?_
  replace D : Mt (InvC c T []) h0 h ((Nd, _) :: news) := D
  refine e_point ?_
  refine e_pure ?_
  refine wpAny_execs_cons ?_
  rw [arm_exec_Assign]
  refine e_at ?_
  refine e_at ?_
  refine e_fresh ?_
  refine t_alloc D ⟨.type "list", none, .seq #[.str nmObj (t + 2)] 0, #[]⟩ (by kernel_rfl) rfl fun sl h D => ?_
  replace D : Mt (InvC c T []) h0 h ((sl, _) :: (Nd, _) :: news) := D
  refine e_at ?_
  refine e_point ?_
  refine e_load (D.at 1 _ _ rfl) ?_
  refine e_ask ?_
  refine e_fresh ?_
  refine e_load (D.at 1 _ _ rfl) ?_
  refine tN 1 D (fun x => ⟨.type "dict", none, .dict #[⟨g1, .str (⟨#[95, 95, 109, 111, 100, 117, 108, 101, 95, 95]⟩ : Str) k1, .str (⟨#[99, 112, 121, 51, 49, 51, 46, 102, 117, 110, 99, 116, 111, 111, 108, 115]⟩ : Str) t⟩, ⟨g2, .str (⟨#[95, 95, 113, 117, 97, 108, 110, 97, 109, 101, 95, 95]⟩ : Str) k2, .str qnK tq⟩, ⟨g3, .str (⟨#[95, 95, 102, 105, 114, 115, 116, 108, 105, 110, 101, 110, 111, 95, 95]⟩ : Str) k3, .int 157 tn⟩, ⟨x, .str (⟨#[95, 95, 115, 108, 111, 116, 115, 95, 95]⟩ : Str) (t + 3), .ref sl⟩] 4, #[]⟩) rfl rfl (fun x => by kernel_rfl) (fun _ => rfl) fun g4 h D => ?_
  replace D : Mt (InvC c T []) h0 h ((sl, _) :: (Nd, _) :: news) := D
  refine e_point ?_
  refine e_pure ?_
  refine wpAny_execs_cons ?_
  rw [arm_exec_FunctionDef]
  refine defS (cl := []) C0 D hn rfl rfl rfl rfl rfl (by kernel_rfl) rfl (fun o ⟨fv, tb, v13, v14, v15, n16, t0, t1, t2, t18, e⟩ => ⟨fun _ => ⟨fv, tb, .none, v13, v14, v15, n16, t0, t1, t2, t18, e.trans (by kernel_rfl)⟩, fun q => absurd q (by decide)⟩) fun fi afi ofi h tkfi pmfi ctfi hcfi D hafi cdfi ifi lfi => ?_
  replace D : Mt (InvC c T [(afi, _)]) h0 h ((fi, _) :: (sl, _) :: (Nd, _) :: news) := D
  refine e_load (D.at 2 _ _ rfl) ?_
  refine e_ask ?_
  refine e_fresh ?_
  refine e_load (D.at 2 _ _ rfl) ?_
  refine tN 2 D (fun x => ⟨.type "dict", none, .dict #[⟨g1, .str (⟨#[95, 95, 109, 111, 100, 117, 108, 101, 95, 95]⟩ : Str) k1, .str (⟨#[99, 112, 121, 51, 49, 51, 46, 102, 117, 110, 99, 116, 111, 111, 108, 115]⟩ : Str) t⟩, ⟨g2, .str (⟨#[95, 95, 113, 117, 97, 108, 110, 97, 109, 101, 95, 95]⟩ : Str) k2, .str qnK tq⟩, ⟨g3, .str (⟨#[95, 95, 102, 105, 114, 115, 116, 108, 105, 110, 101, 110, 111, 95, 95]⟩ : Str) k3, .int 157 tn⟩, ⟨g4, .str (⟨#[95, 95, 115, 108, 111, 116, 115, 95, 95]⟩ : Str) (t + 3), .ref sl⟩, ⟨x, .str (⟨#[95, 95, 105, 110, 105, 116, 95, 95]⟩ : Str) tkfi, .ref fi⟩] 5, #[]⟩) rfl rfl (fun x => by kernel_rfl) (fun _ => rfl) fun g5 h D => ?_
  replace D : Mt (InvC c T [(afi, _)]) h0 h ((fi, _) :: (sl, _) :: (Nd, _) :: news) := D
  refine e_pure ?_
  refine wpAny_execs_cons ?_
  rw [arm_exec_FunctionDef]
  refine defS (cl := [(nmCmp, cell)]) C0 D hn rfl rfl rfl rfl rfl (by kernel_rfl) rfl (fun o ⟨fv, tb, v13, v14, v15, n16, t0, t1, t2, t18, e⟩ => ⟨fun q => absurd q (by decide), fun _ => ⟨fv, tb, .none, v13, v14, v15, n16, t0, t1, t2, t18, e.trans (by kernel_rfl)⟩⟩) fun fl afl ofl h tkfl pmfl ctfl hcfl D hafl cdfl ifl lfl => ?_
  replace D : Mt (InvC c T [(afl, _), (afi, _)]) h0 h ((fl, _) :: (fi, _) :: (sl, _) :: (Nd, _) :: news) := D
  refine e_load (D.at 3 _ _ rfl) ?_
  refine e_ask ?_
  refine e_fresh ?_
  refine e_load (D.at 3 _ _ rfl) ?_
  refine tN 3 D (fun x => ⟨.type "dict", none, .dict #[⟨g1, .str (⟨#[95, 95, 109, 111, 100, 117, 108, 101, 95, 95]⟩ : Str) k1, .str (⟨#[99, 112, 121, 51, 49, 51, 46, 102, 117, 110, 99, 116, 111, 111, 108, 115]⟩ : Str) t⟩, ⟨g2, .str (⟨#[95, 95, 113, 117, 97, 108, 110, 97, 109, 101, 95, 95]⟩ : Str) k2, .str qnK tq⟩, ⟨g3, .str (⟨#[95, 95, 102, 105, 114, 115, 116, 108, 105, 110, 101, 110, 111, 95, 95]⟩ : Str) k3, .int 157 tn⟩, ⟨g4, .str (⟨#[95, 95, 115, 108, 111, 116, 115, 95, 95]⟩ : Str) (t + 3), .ref sl⟩, ⟨g5, .str (⟨#[95, 95, 105, 110, 105, 116, 95, 95]⟩ : Str) tkfi, .ref fi⟩, ⟨x, .str (⟨#[95, 95, 108, 116, 95, 95]⟩ : Str) tkfl, .ref fl⟩] 6, #[]⟩) rfl rfl (fun x => by kernel_rfl) (fun _ => rfl) fun g6 h D => ?_
  replace D : Mt (InvC c T [(afl, _), (afi, _)]) h0 h ((fl, _) :: (fi, _) :: (sl, _) :: (Nd, _) :: news) := D
  refine e_pure ?_
  refine wpAny_execs_cons ?_
  rw [arm_exec_FunctionDef]
  refine defS (cl := [(nmCmp, cell)]) C0 D hn rfl rfl rfl rfl rfl (by kernel_rfl) rfl (fun o _ => ⟨fun q => absurd q (by decide), fun q => absurd q (by decide)⟩) fun fg afg ofg h tkfg pmfg ctfg hcfg D hafg cdfg ifg lfg => ?_
  replace D : Mt (InvC c T [(afg, _), (afl, _), (afi, _)]) h0 h ((fg, _) :: (fl, _) :: (fi, _) :: (sl, _) :: (Nd, _) :: news) := D
  refine e_load (D.at 4 _ _ rfl) ?_
  refine e_ask ?_
  refine e_fresh ?_
  refine e_load (D.at 4 _ _ rfl) ?_
  refine tN 4 D (fun x => ⟨.type "dict", none, .dict #[⟨g1, .str (⟨#[95, 95, 109, 111, 100, 117, 108, 101, 95, 95]⟩ : Str) k1, .str (⟨#[99, 112, 121, 51, 49, 51, 46, 102, 117, 110, 99, 116, 111, 111, 108, 115]⟩ : Str) t⟩, ⟨g2, .str (⟨#[95, 95, 113, 117, 97, 108, 110, 97, 109, 101, 95, 95]⟩ : Str) k2, .str qnK tq⟩, ⟨g3, .str (⟨#[95, 95, 102, 105, 114, 115, 116, 108, 105, 110, 101, 110, 111, 95, 95]⟩ : Str) k3, .int 157 tn⟩, ⟨g4, .str (⟨#[95, 95, 115, 108, 111, 116, 115, 95, 95]⟩ : Str) (t + 3), .ref sl⟩, ⟨g5, .str (⟨#[95, 95, 105, 110, 105, 116, 95, 95]⟩ : Str) tkfi, .ref fi⟩, ⟨g6, .str (⟨#[95, 95, 108, 116, 95, 95]⟩ : Str) tkfl, .ref fl⟩, ⟨x, .str (⟨#[95, 95, 103, 116, 95, 95]⟩ : Str) tkfg, .ref fg⟩] 7, #[]⟩) rfl rfl (fun x => by kernel_rfl) (fun _ => rfl) fun g7 h D => ?_
  replace D : Mt (InvC c T [(afg, _), (afl, _), (afi, _)]) h0 h ((fg, _) :: (fl, _) :: (fi, _) :: (sl, _) :: (Nd, _) :: news) := D
  refine e_pure ?_
  refine wpAny_execs_cons ?_
  rw [arm_exec_FunctionDef]
  refine defS (cl := [(nmCmp, cell)]) C0 D hn rfl rfl rfl rfl rfl (by kernel_rfl) rfl (fun o _ => ⟨fun q => absurd q (by decide), fun q => absurd q (by decide)⟩) fun fe afe ofe h tkfe pmfe ctfe hcfe D hafe cdfe ife lfe => ?_
  replace D : Mt (InvC c T [(afe, _), (afg, _), (afl, _), (afi, _)]) h0 h ((fe, _) :: (fg, _) :: (fl, _) :: (fi, _) :: (sl, _) :: (Nd, _) :: news) := D
  refine e_load (D.at 5 _ _ rfl) ?_
  refine e_ask ?_
  refine e_fresh ?_
  refine e_load (D.at 5 _ _ rfl) ?_
  refine tN 5 D (fun x => ⟨.type "dict", none, .dict #[⟨g1, .str (⟨#[95, 95, 109, 111, 100, 117, 108, 101, 95, 95]⟩ : Str) k1, .str (⟨#[99, 112, 121, 51, 49, 51, 46, 102, 117, 110, 99, 116, 111, 111, 108, 115]⟩ : Str) t⟩, ⟨g2, .str (⟨#[95, 95, 113, 117, 97, 108, 110, 97, 109, 101, 95, 95]⟩ : Str) k2, .str qnK tq⟩, ⟨g3, .str (⟨#[95, 95, 102, 105, 114, 115, 116, 108, 105, 110, 101, 110, 111, 95, 95]⟩ : Str) k3, .int 157 tn⟩, ⟨g4, .str (⟨#[95, 95, 115, 108, 111, 116, 115, 95, 95]⟩ : Str) (t + 3), .ref sl⟩, ⟨g5, .str (⟨#[95, 95, 105, 110, 105, 116, 95, 95]⟩ : Str) tkfi, .ref fi⟩, ⟨g6, .str (⟨#[95, 95, 108, 116, 95, 95]⟩ : Str) tkfl, .ref fl⟩, ⟨g7, .str (⟨#[95, 95, 103, 116, 95, 95]⟩ : Str) tkfg, .ref fg⟩, ⟨x, .str (⟨#[95, 95, 101, 113, 95, 95]⟩ : Str) tkfe, .ref fe⟩] 8, #[]⟩) rfl rfl (fun x => by kernel_rfl) (fun _ => rfl) fun g8 h D => ?_
  replace D : Mt (InvC c T [(afe, _), (afg, _), (afl, _), (afi, _)]) h0 h ((fe, _) :: (fg, _) :: (fl, _) :: (fi, _) :: (sl, _) :: (Nd, _) :: news) := D
  refine e_pure ?_
  refine wpAny_execs_cons ?_
  rw [arm_exec_FunctionDef]
  refine defS (cl := [(nmCmp, cell)]) C0 D hn rfl rfl rfl rfl rfl (by kernel_rfl) rfl (fun o _ => ⟨fun q => absurd q (by decide), fun q => absurd q (by decide)⟩) fun fle afle ofle h tkfle pmfle ctfle hcfle D hafle cdfle ifle lfle => ?_
  replace D : Mt (InvC c T [(afle, _), (afe, _), (afg, _), (afl, _), (afi, _)]) h0 h ((fle, _) :: (fe, _) :: (fg, _) :: (fl, _) :: (fi, _) :: (sl, _) :: (Nd, _) :: news) := D
  refine e_load (D.at 6 _ _ rfl) ?_
  refine e_ask ?_
  refine e_fresh ?_
  refine e_load (D.at 6 _ _ rfl) ?_
  refine tN 6 D (fun x => ⟨.type "dict", none, .dict #[⟨g1, .str (⟨#[95, 95, 109, 111, 100, 117, 108, 101, 95, 95]⟩ : Str) k1, .str (⟨#[99, 112, 121, 51, 49, 51, 46, 102, 117, 110, 99, 116, 111, 111, 108, 115]⟩ : Str) t⟩, ⟨g2, .str (⟨#[95, 95, 113, 117, 97, 108, 110, 97, 109, 101, 95, 95]⟩ : Str) k2, .str qnK tq⟩, ⟨g3, .str (⟨#[95, 95, 102, 105, 114, 115, 116, 108, 105, 110, 101, 110, 111, 95, 95]⟩ : Str) k3, .int 157 tn⟩, ⟨g4, .str (⟨#[95, 95, 115, 108, 111, 116, 115, 95, 95]⟩ : Str) (t + 3), .ref sl⟩, ⟨g5, .str (⟨#[95, 95, 105, 110, 105, 116, 95, 95]⟩ : Str) tkfi, .ref fi⟩, ⟨g6, .str (⟨#[95, 95, 108, 116, 95, 95]⟩ : Str) tkfl, .ref fl⟩, ⟨g7, .str (⟨#[95, 95, 103, 116, 95, 95]⟩ : Str) tkfg, .ref fg⟩, ⟨g8, .str (⟨#[95, 95, 101, 113, 95, 95]⟩ : Str) tkfe, .ref fe⟩, ⟨x, .str (⟨#[95, 95, 108, 101, 95, 95]⟩ : Str) tkfle, .ref fle⟩] 9, #[]⟩) rfl rfl (fun x => by kernel_rfl) (fun _ => rfl) fun g9 h D => ?_
  replace D : Mt (InvC c T [(afle, _), (afe, _), (afg, _), (afl, _), (afi, _)]) h0 h ((fle, _) :: (fe, _) :: (fg, _) :: (fl, _) :: (fi, _) :: (sl, _) :: (Nd, _) :: news) := D
  refine e_pure ?_
  refine wpAny_execs_cons ?_
  rw [arm_exec_FunctionDef]
  refine defS (cl := [(nmCmp, cell)]) C0 D hn rfl rfl rfl rfl rfl (by kernel_rfl) rfl (fun o _ => ⟨fun q => absurd q (by decide), fun q => absurd q (by decide)⟩) fun fge afge ofge h tkfge pmfge ctfge hcfge D hafge cdfge ifge lfge => ?_
  replace D : Mt (InvC c T [(afge, _), (afle, _), (afe, _), (afg, _), (afl, _), (afi, _)]) h0 h ((fge, _) :: (fle, _) :: (fe, _) :: (fg, _) :: (fl, _) :: (fi, _) :: (sl, _) :: (Nd, _) :: news) := D
  refine e_load (D.at 7 _ _ rfl) ?_
  refine e_ask ?_
  refine e_fresh ?_
  refine e_load (D.at 7 _ _ rfl) ?_
  refine tN 7 D (fun x => ⟨.type "dict", none, .dict #[⟨g1, .str (⟨#[95, 95, 109, 111, 100, 117, 108, 101, 95, 95]⟩ : Str) k1, .str (⟨#[99, 112, 121, 51, 49, 51, 46, 102, 117, 110, 99, 116, 111, 111, 108, 115]⟩ : Str) t⟩, ⟨g2, .str (⟨#[95, 95, 113, 117, 97, 108, 110, 97, 109, 101, 95, 95]⟩ : Str) k2, .str qnK tq⟩, ⟨g3, .str (⟨#[95, 95, 102, 105, 114, 115, 116, 108, 105, 110, 101, 110, 111, 95, 95]⟩ : Str) k3, .int 157 tn⟩, ⟨g4, .str (⟨#[95, 95, 115, 108, 111, 116, 115, 95, 95]⟩ : Str) (t + 3), .ref sl⟩, ⟨g5, .str (⟨#[95, 95, 105, 110, 105, 116, 95, 95]⟩ : Str) tkfi, .ref fi⟩, ⟨g6, .str (⟨#[95, 95, 108, 116, 95, 95]⟩ : Str) tkfl, .ref fl⟩, ⟨g7, .str (⟨#[95, 95, 103, 116, 95, 95]⟩ : Str) tkfg, .ref fg⟩, ⟨g8, .str (⟨#[95, 95, 101, 113, 95, 95]⟩ : Str) tkfe, .ref fe⟩, ⟨g9, .str (⟨#[95, 95, 108, 101, 95, 95]⟩ : Str) tkfle, .ref fle⟩, ⟨x, .str (⟨#[95, 95, 103, 101, 95, 95]⟩ : Str) tkfge, .ref fge⟩] 10, #[]⟩) rfl rfl (fun x => by kernel_rfl) (fun _ => rfl) fun g10 h D => ?_
  replace D : Mt (InvC c T [(afge, _), (afle, _), (afe, _), (afg, _), (afl, _), (afi, _)]) h0 h ((fge, _) :: (fle, _) :: (fe, _) :: (fg, _) :: (fl, _) :: (fi, _) :: (sl, _) :: (Nd, _) :: news) := D
  refine e_pure ?_
  refine wpAny_execs_cons ?_
  rw [arm_exec_Assign]
  refine e_at ?_
  refine e_at ?_
  refine e_point ?_
  refine e_load (D.at 7 _ _ rfl) ?_
  refine e_ask ?_
  refine e_fresh ?_
  refine e_load (D.at 7 _ _ rfl) ?_
  refine tN 7 D (fun x => ⟨.type "dict", none, .dict #[⟨g1, .str (⟨#[95, 95, 109, 111, 100, 117, 108, 101, 95, 95]⟩ : Str) k1, .str (⟨#[99, 112, 121, 51, 49, 51, 46, 102, 117, 110, 99, 116, 111, 111, 108, 115]⟩ : Str) t⟩, ⟨g2, .str (⟨#[95, 95, 113, 117, 97, 108, 110, 97, 109, 101, 95, 95]⟩ : Str) k2, .str qnK tq⟩, ⟨g3, .str (⟨#[95, 95, 102, 105, 114, 115, 116, 108, 105, 110, 101, 110, 111, 95, 95]⟩ : Str) k3, .int 157 tn⟩, ⟨g4, .str (⟨#[95, 95, 115, 108, 111, 116, 115, 95, 95]⟩ : Str) (t + 3), .ref sl⟩, ⟨g5, .str (⟨#[95, 95, 105, 110, 105, 116, 95, 95]⟩ : Str) tkfi, .ref fi⟩, ⟨g6, .str (⟨#[95, 95, 108, 116, 95, 95]⟩ : Str) tkfl, .ref fl⟩, ⟨g7, .str (⟨#[95, 95, 103, 116, 95, 95]⟩ : Str) tkfg, .ref fg⟩, ⟨g8, .str (⟨#[95, 95, 101, 113, 95, 95]⟩ : Str) tkfe, .ref fe⟩, ⟨g9, .str (⟨#[95, 95, 108, 101, 95, 95]⟩ : Str) tkfle, .ref fle⟩, ⟨g10, .str (⟨#[95, 95, 103, 101, 95, 95]⟩ : Str) tkfge, .ref fge⟩, ⟨x, .str (⟨#[95, 95, 104, 97, 115, 104, 95, 95]⟩ : Str) (tkfge + 1), .none⟩] 11, #[]⟩) rfl rfl (fun x => by kernel_rfl) (fun _ => rfl) fun g11 h D => ?_
  replace D : Mt (InvC c T [(afge, _), (afle, _), (afe, _), (afg, _), (afl, _), (afi, _)]) h0 h ((fge, _) :: (fle, _) :: (fe, _) :: (fg, _) :: (fl, _) :: (fi, _) :: (sl, _) :: (Nd, _) :: news) := D
  refine e_point ?_
  refine e_pure ?_
  refine wpAny_execs_nil ?_
  rw [hcfi rfl] at D
  refine hQ fge fle fe fg fl fi sl _ h _ afi afl ofi ofl pmfi pmfl ctfl _ _ _ _ _ _ _ g4 g5 g6 g7 g8 g9 g10 g11 (t + 3) tkfi tkfl tkfg tkfe tkfle tkfge (tkfge + 1) D (by simp) (ifi rfl) (by simp) (lfl rfl)
end Mine
end

section
open PySem PySem.W PySem.W.X PyProof.Rows PySem.Calls
namespace Mine
variable [Inhabited Base]
theorem cls_ne {o o' : Obj} (e : o = o') {a b : String} (n : a ≠ b) (ha : o.cls = .type a := by rfl) (hb : o'.cls = .type b := by rfl) : False := by
  rw [e, hb] at ha; injection ha with q; exact n q.symm
theorem Cx.lim {w : World} {h : Heap} (C : Cx w h) : h.NoLimit := let ⟨_, _, _, _, T⟩ := C.t; T.nolimit
noncomputable def nmV (P : Params) : Value := match (lk P 3).data with | .dict es _ => (nsFind es "__name__").getD .none | _ => .none
theorem ckQ {w : World} {h0 : Heap} {g : Array GenState} {d : Drawn} {t : Nat} {os : OsState} {A : Around} {E : Value → Shared → Prop} (C0 : CxB w h0) (hTb : Tb h0) (hroom : A.depth < 900) {Q : Result → Shared → Prop} (hQ : ∀ C h' tk', KeepB h0 h' → (∀ b, h'.get? b = none → h0.get? b = none) → Tb h' → h0.get? C = none → ClsK h' C → (∃ L x t, h0.get? L = none ∧ h'.get? L = some ⟨.type "frame", none, .dict #[⟨x, .str nmK t, .ref C⟩] 1, #[]⟩) → Q (.ok (.ret (.ref C))) ⟨h', g, d, tk', os⟩) :
   wpAny (model PySem.Challenge.rw_qh0048_01.row.prog w) A (.call (.call (.ref 116) ⟨[.ref 151], []⟩) none false [] Sem.pure) Q E ⟨h0, g, d, t, os⟩ := by
  have X := C0.cx.k
  have hX : ∀ {h' : Heap}, KeepB h0 h' → (K1 w.params).In h' := fun k => (C0.keeps k).cx.k
  have D := Mt.start hTb (fun _ _ k x => x.mono k)
  refine x_call ?_ (fun e => by cases e)
  refine codeAny_call_function (Nat.lt_trans hroom (by decide)) (X 116 _ rfl) rfl rfl rfl rfl (codeRec_of X (by kernel_rfl)) ?_
  refine e_pure ?_
  refine t_alloc D _ rfl (by rfl) fun L h D => ?_
  refine t_alloc D _ rfl (by rfl) fun cell h D => ?_
  refine e_load (D.at 0 _ _ rfl) ?_
  refine t_update D 0 (cellObj (.ref 151)) rfl rfl (by kernel_rfl) rfl fun h D => ?_
  refine e_pure ⟨(C0.keeps D.keep).cx.lim, codeAny_func ?_⟩
  refine wpAny_execs_cons ?_
  rw [arm_exec_ClassDef]
  refine e_at ?_
  refine e_load ((hX D.keep) 0 _ rfl) ?_
  refine e_bindp () (by kernel_rfl) ?_
  refine e_bind ?_
  refine wpAny_holding ?_
  refine e_bind ?_
  refine e_bind ?_
  refine e_bind ?_
  refine nm_bi ((C0.keeps D.keep).cx) (by kernel_rfl) (v := .type "object") (by kernel_rfl) (by decide) ?_
  refine e_eq (m' := .pure [.type "object"]) (by kernel_rfl) ?_
  refine e_pure ?_
  refine e_eq (m' := .pure ⟨[.type "object"], []⟩) (by kernel_rfl) ?_
  refine e_pure ?_
  refine e_at ?_
  refine e_bindp () rfl ?_
  refine wpAny_holding ?_
  unfold buildClass
  refine e_bind ?_
  refine t_alloc D ⟨.type "tuple", none, .seq #[.type "object"] 0, #[]⟩ rfl rfl fun B h D => ?_
  refine e_pure ?_
  refine e_fresh ?_
  refine e_bindp _ rfl ?_
  refine e_bindp (Value.ref B) rfl ?_
  refine wpAny_holding ?_
  refine e_fresh ?_
  refine e_call ?_
  refine wpAny_mono (x_prep (t' := _) rfl (hX D.keep)) ?_ (fun _ _ q => q)
  rintro _ _ ⟨P, h, tk, rfl, rfl, M⟩
  replace D : Mt _ h0 h ((P, prepObj) :: (B, _) :: _) := D.add M
  clear M
  refine e_call ?_
  refine wpAny_mono (x_prep2 rfl (hX D.keep) (D.at 0 _ _ rfl)) ?_ (fun _ _ q => q)
  rintro _ _ ⟨Nd, h, tk2, rfl, rfl, M⟩
  replace D : Mt _ h0 h ((Nd, _) :: (P, prepObj) :: (B, _) :: _) := D.add M
  clear M
  have nsm : (Nd == sysModules) = false := beq_eq_false_iff_ne.mpr (D.ne_old 0 _ _ rfl _ _ (X _ _ rfl))
  have hnm : ∀ who, notTheModulesDict who Nd = pure () := fun who => by unfold notTheModulesDict; rw [nsm]; rfl
  refine e_bindp (Value.ref Nd) rfl ?_
  refine e_bindp () (hnm _) ?_
  refine e_load (D.at 0 _ _ rfl) ?_
  refine e_bindp (some (.builtin "dict.__getitem__")) (by kernel_rfl) ?_
  refine e_nb rfl ?_
  refine wpAny_holding ?_
  refine e_nb (by kernel_rfl) ?_
  refine e_bindp none rfl ?_
  refine e_nb (by kernel_rfl) ?_
  refine e_bindp none rfl ?_
  refine e_bind ?_
  refine ccode C0 D rfl rfl rfl fun c T h tk3 D => ?_
  refine e_load ((hX D.keep) 3 _ rfl) ?_
  refine e_load ((hX D.keep) 4 _ rfl) ?_
  refine e_bindp 0 (by kernel_rfl) ?_
  refine e_load ((hX D.keep) 3 _ rfl) ?_
  refine t_alloc D _ rfl (by rfl) fun Fm h D => ?_
  refine e_bindp Fm rfl ?_
  refine e_bindp [(nmCmp, cell)] (by kernel_rfl) ?_
  refine wpAny_holding ?_
  refine e_bind (wpAny_enterFrame ((C0.keeps D.keep).cx.lim) ?_ ?_)
  · exact Nat.lt_of_lt_of_le (Nat.succ_lt_succ hroom) (by decide)
  refine e_bind ?_
  refine e_load (D.at 1 _ _ rfl) ?_
  refine e_load (D.at 1 _ _ rfl) ?_
  refine e_load ((hX D.keep) 3 _ rfl) ?_
  refine e_load (D.at 1 _ _ rfl) ?_
  refine e_ask ?_
  refine e_fresh ?_
  refine e_load (D.at 1 _ _ rfl) ?_
  refine tN 1 D (fun x => ⟨.type "dict", none, .dict #[⟨x, .str (⟨#[95, 95, 109, 111, 100, 117, 108, 101, 95, 95]⟩ : Str) tk3, nmV w.params⟩] 1, #[]⟩) rfl rfl (fun x => by kernel_rfl) (fun _ => rfl) fun g1 h D => ?_
  refine e_fresh ?_
  refine e_load (D.at 1 _ _ rfl) ?_
  refine e_ask ?_
  refine e_fresh ?_
  refine e_load (D.at 1 _ _ rfl) ?_
  refine tN 1 D (fun x => ⟨.type "dict", none, .dict #[⟨g1, .str (⟨#[95, 95, 109, 111, 100, 117, 108, 101, 95, 95]⟩ : Str) tk3, nmV w.params⟩, ⟨x, .str (⟨#[95, 95, 113, 117, 97, 108, 110, 97, 109, 101, 95, 95]⟩ : Str) (tk3 + 2), .str qnK (tk3 + 1)⟩] 2, #[]⟩) rfl rfl (fun x => by kernel_rfl) (fun _ => rfl) fun g2 h D => ?_
  refine e_fresh ?_
  refine e_load (D.at 1 _ _ rfl) ?_
  refine e_ask ?_
  refine e_fresh ?_
  refine e_load (D.at 1 _ _ rfl) ?_
  refine tN 1 D (fun x => ⟨.type "dict", none, .dict #[⟨g1, .str (⟨#[95, 95, 109, 111, 100, 117, 108, 101, 95, 95]⟩ : Str) tk3, nmV w.params⟩, ⟨g2, .str (⟨#[95, 95, 113, 117, 97, 108, 110, 97, 109, 101, 95, 95]⟩ : Str) (tk3 + 2), .str qnK (tk3 + 1)⟩, ⟨x, .str (⟨#[95, 95, 102, 105, 114, 115, 116, 108, 105, 110, 101, 110, 111, 95, 95]⟩ : Str) (tk3 + 4), .int 157 (tk3 + 3)⟩] 3, #[]⟩) rfl rfl (fun x => by kernel_rfl) (fun _ => rfl) fun g3 h D => ?_
  refine e_pure ?_
  refine e_bind ?_
  refine e_call ?_
  refine x_call (codeAny_body rfl rfl ?_) (fun e => by cases e)
  have D2 : Mt (InvC c T []) h0 h ((Nd, _) :: (Fm, _) :: (P, prepObj) :: (B, _) :: (cell, _) :: (L, _) :: []) := D.perm (List.Perm.swap _ _ _)
  refine kbody C0 (by rfl) D2 ?_
  intro fge fle fe fg fl fi sl l h' tk4 ai al oi ol pmi pml ctl fdge fdle fde fdg sm tm ts g4 g5 g6 g7 g8 g9 g10 g11 k4 k5 k6 k7 k8 k9 k10 k11 D hai ici hal icl
  refine e_pure ?_
  refine e_pure ?_
  refine e_bind ?_
  refine e_fresh ?_
  refine t_alloc D ⟨.type "tuple", none, .seq #[.str nmObj tk4] 0, #[]⟩ (by kernel_rfl) rfl fun sa h D => ?_
  refine e_load (D.at 8 _ _ rfl) ?_
  refine e_ask ?_
  refine e_fresh ?_
  refine e_load (D.at 8 _ _ rfl) ?_
  refine tN 8 D (fun x => ⟨.type "dict", none, .dict #[⟨g1, .str (⟨#[95, 95, 109, 111, 100, 117, 108, 101, 95, 95]⟩ : Str) tk3, .str sm tm⟩, ⟨g2, .str (⟨#[95, 95, 113, 117, 97, 108, 110, 97, 109, 101, 95, 95]⟩ : Str) (tk3 + 2), .str qnK (tk3 + 1)⟩, ⟨g3, .str (⟨#[95, 95, 102, 105, 114, 115, 116, 108, 105, 110, 101, 110, 111, 95, 95]⟩ : Str) (tk3 + 4), .int 157 (tk3 + 3)⟩, ⟨g4, .str (⟨#[95, 95, 115, 108, 111, 116, 115, 95, 95]⟩ : Str) k4, .ref sl⟩, ⟨g5, .str (⟨#[95, 95, 105, 110, 105, 116, 95, 95]⟩ : Str) k5, .ref fi⟩, ⟨g6, .str (⟨#[95, 95, 108, 116, 95, 95]⟩ : Str) k6, .ref fl⟩, ⟨g7, .str (⟨#[95, 95, 103, 116, 95, 95]⟩ : Str) k7, .ref fg⟩, ⟨g8, .str (⟨#[95, 95, 101, 113, 95, 95]⟩ : Str) k8, .ref fe⟩, ⟨g9, .str (⟨#[95, 95, 108, 101, 95, 95]⟩ : Str) k9, .ref fle⟩, ⟨g10, .str (⟨#[95, 95, 103, 101, 95, 95]⟩ : Str) k10, .ref fge⟩, ⟨g11, .str (⟨#[95, 95, 104, 97, 115, 104, 95, 95]⟩ : Str) k11, .none⟩, ⟨x, .str (⟨#[95, 95, 115, 116, 97, 116, 105, 99, 95, 97, 116, 116, 114, 105, 98, 117, 116, 101, 115, 95, 95]⟩ : Str) (tk4 + 1), .ref sa⟩] 12, #[]⟩) rfl rfl (fun x => by kernel_rfl) (fun _ => rfl) fun g12 h D => ?_
  replace D : Mt _ h0 h [(sa, _), (fge, _), (fle, _), (fe, _), (fg, _), (fl, _), (fi, _), (sl, _), (Nd, _), (Fm, _), (P, _), (B, _), (cell, _), (L, _)] := D
  refine e_pure ?_
  refine e_bind ?_
  refine e_call ?_
  obtain ⟨ts111, h111, _⟩ := id D.inv.1
  refine wpAny_mono (tcall (hX D.keep) h111 (D.at 11 _ _ rfl) (D.at 8 _ _ rfl) (D.at 7 _ _ rfl) nsm (D.at 6 _ _ rfl) (D.at 5 _ _ rfl) (D.at 4 _ _ rfl) (D.at 3 _ _ rfl) (D.at 2 _ _ rfl) (D.at 1 _ _ rfl) (D.at 0 _ _ rfl)) ?_ (fun _ _ q => q)
  rintro _ _ ⟨C, N, p, h13, h14, tk5, h, tk6, rfl, rfl, kp, fC, fp, fN, hC, hp, hN⟩
  have D3 : Mt (InvC c T l) h0 h [(C, _), (p, _), (N, _), (sa, _), (fge, _), (fle, _), (fe, _), (fg, _), (fl, _), (fi, _), (sl, _), (Nd, _), (Fm, _), (P, _), (B, _), (cell, _), (L, _)] :=
    D.grow (n' := [(C, _), (p, _), (N, _)]) kp (fun q hq => (by
      rcases List.mem_cons.mp hq with rfl | hq
      · exact ⟨hC, fC⟩
      rcases List.mem_cons.mp hq with rfl | hq
      · exact ⟨hp, fp⟩
      rw [List.mem_singleton.mp hq]
      exact ⟨hN, fN⟩)) (by
      have n1 : C ≠ p := by rintro rfl; exact cls_ne (a := "type") (b := "member_descriptor") (Option.some.inj (hC.symm.trans hp)) (by decide)
      have n2 : C ≠ N := by rintro rfl; exact cls_ne (a := "type") (b := "dict") (Option.some.inj (hC.symm.trans hN)) (by decide)
      have n3 : p ≠ N := by rintro rfl; exact cls_ne (a := "member_descriptor") (b := "dict") (Option.some.inj (hp.symm.trans hN)) (by decide)
      simp [n1, n2, n3])
  clear D
  rename Mt _ _ _ _ => D
  refine e_pure ?_
  refine e_pure ?_
  refine e_bindp (.ref C) rfl ?_
  refine e_at ?_
  refine e_bindp () rfl ?_
  unfold bindName
  refine e_bind ?_
  refine e_bind ?_
  refine wpAny_holding ?_
  refine e_point ?_
  refine e_pure ?_
  refine e_bind ?_
  refine e_ask ?_
  refine e_fresh ?_
  refine e_load (D.at 16 _ _ rfl) ?_
  refine tN 16 D (fun x => ⟨.type "frame", none, .dict #[⟨x, .str nmK tk6, .ref C⟩] 1, #[]⟩) rfl (by kernel_rfl) (fun x => by kernel_rfl) (fun _ => rfl) fun gx h D => ?_
  replace D : Mt _ h0 h [(C, _), (p, _), (N, _), (sa, _), (fge, _), (fle, _), (fe, _), (fg, _), (fl, _), (fi, _), (sl, _), (Nd, _), (Fm, _), (P, _), (B, _), (cell, _), (L, _)] := D
  refine e_pure ?_
  refine e_point ?_
  refine e_pure ?_
  refine e_pure ?_
  refine wpAny_execs_cons ?_
  rw [arm_exec_Return]
  refine e_at ?_
  refine e_at ?_
  refine e_load (D.at 16 _ _ rfl) ?_
  refine e_pure ?_
  refine e_pure ?_
  refine hQ C h _ D.keep D.al D.inv.1 (D.frAt 0 _ _ rfl) ?_ ⟨L, _, _, D.frAt 16 _ _ rfl, D.at 16 _ _ rfl⟩
  refine ⟨N, B, p, fi, fl, ai, al, cell, _, _, _, oi, ol, _, _, _, D.at 0 _ _ rfl, D.at 2 _ _ rfl, ⟨_, _, _, _, _, _, _, _, _, _, _, _, _, _, _, _, _, _, _, _, _, _, _, _, _, _, _, _, _, _, _, _, _, _, _, rfl⟩, D.at 1 _ _ rfl, D.at 9 _ _ rfl, ⟨_, rfl⟩, (D.inv.2.2 _ hai).1, ici, D.at 8 _ _ rfl, ⟨_, _, rfl⟩, (D.inv.2.2 _ hal).1, icl, D.at 15 _ _ rfl⟩
theorem ck {w : World} {h0 : Heap} {g : Array GenState} {d : Drawn} {t : Nat} {os : OsState} {A : Around} {E : Value → Shared → Prop} (C0 : CxB w h0) (hTb : Tb h0) (hroom : A.depth < 900) :
   wpAny (model PySem.Challenge.rw_qh0048_01.row.prog w) A (.call (.call (.ref 116) ⟨[.ref 151], []⟩) none false [] Sem.pure)
      (fun r s' => ∃ C h' tk', r = .ok (.ret (.ref C)) ∧ s' = ⟨h', g, d, tk', os⟩ ∧ KeepB h0 h' ∧ (∀ b, h'.get? b = none → h0.get? b = none) ∧ Tb h' ∧ h0.get? C = none ∧ ClsK h' C ∧ ∃ L x t, h0.get? L = none ∧ h'.get? L = some ⟨.type "frame", none, .dict #[⟨x, .str nmK t, .ref C⟩] 1, #[]⟩) E ⟨h0, g, d, t, os⟩ :=
  ckQ C0 hTb hroom fun C h' tk' a b c e f q => ⟨C, h', tk', rfl, rfl, a, b, c, e, f, q⟩
end Mine
end

section
open PySem PySem.W PySem.W.X PyProof.Rows PySem.Calls
namespace Mine
variable [Inhabited Base]
section
variable {w : World} {h : Heap} {g : Array GenState} {d : Drawn} {t : Nat} {os : OsState} {A : Around} {E : Value → Shared → Prop}
  {C N T p fi fl ci cl cell i di : Addr} {h1 h2 h3 h4 h5 h6 h7 h8 h9 h10 h11 h12 h13 : Int} {t1 t2 t3 t4 t5 t6 t7 t8 t9 t10 t11 t12 t13 u1 u2 u3 : Tok} {v1 v2 v3 v4 v5 v6 v7 v8 pm ct : Value} {n : Nat} {v : Value}
theorem x_bind {Q : Option (Value × List Value) → Shared → Prop}
    (X : (K1 w.params).In h) (hC : h.get? C = some (clsObj C N T u1 u2))
    (hN : h.get? N = some (nsObj h1 h2 h3 h4 h5 h6 h7 h8 h9 h10 h11 h12 h13 t1 t2 t3 t4 t5 t6 t7 t8 t9 t10 t11 t12 t13 v1 v2 v3 v4 v5 v6 v7 v8 fi fl p n))
    (hl : h.get? fl = some (fnObj 3 nmLt qnLt [(nmCmp, cell)] pm cl ct))
    (hi : h.get? i = some ⟨.ref C, some di, .plain, #[some v]⟩) 
    (hQ : Q (some (.ref fl, [.ref i])) ⟨h, g, d, t, os⟩) :
    wpAny (model PySem.Challenge.rw_qh0048_01.row.prog w) A (bindSpecialIfBound? (.ref i) (Str.ofString "__lt__")) Q E ⟨h, g, d, t, os⟩ := by
  repeat (first | refine e_load hi ?_ | refine e_load hC ?_ | refine e_load hN ?_ | refine e_load hl ?_ | refine e_ask ?_)
  refine e_bindp _ rfl ?_
  have fin : ∀ {A : Around} {E : Value → Shared → Prop}, wpAny (model PySem.Challenge.rw_qh0048_01.row.prog w) A (bindSpecial (.ref fl) (.ref i)) (fun b s' => wpAny (model PySem.Challenge.rw_qh0048_01.row.prog w) A (pure (some b)) Q E s') E ⟨h, g, d, t, os⟩ := fun {A E} => by
    refine e_load hl ?_
    exact e_pure (e_pure hQ)
  cases hb : w.params.followText "special-get-raises" with
  | true => exact e_ify rfl (e_bind fin)
  | false => exact e_ifn Bool.false_ne_true (e_try (e_bind fin))
local macro_rules | `(tactic| x_close) => `(tactic| exact ⟨_, rfl, rfl⟩)
theorem x_hooked {prog : Program} (hprog : prog = PySem.Challenge.rw_qh0048_01.row.prog) {t' : Tok}
    (X : (K1 w.params).In h) (hC : h.get? C = some (clsObj C N T u1 u2))
    (hN : h.get? N = some (nsObj h1 h2 h3 h4 h5 h6 h7 h8 h9 h10 h11 h12 h13 t1 t2 t3 t4 t5 t6 t7 t8 t9 t10 t11 t12 t13 v1 v2 v3 v4 v5 v6 v7 v8 fi fl p n))
    (hp : h.get? p = some (dscObj C u3))
    (hi : h.get? i = some ⟨.ref C, some di, .plain, #[some v]⟩) (hdi : h.get? di = some ⟨.type "dict", none, .dict #[] 0, #[]⟩) :
    wpAny (model prog w) A (.call (.builtin "proto.getattr_hooked" ⟨[.ref i, .str nmObj t'], []⟩) none false [] Sem.pure)
      (fun r s' => ∃ tk, r = .ok (.ret v) ∧ s' = ⟨h, g, d, tk, os⟩) E ⟨h, g, d, t, os⟩ := by
  revert X hprog; k_fill; intro hprog X; clear hprog
  simp only [clsObj, nsObj, dscObj] at hC hN hp
  x_run
theorem x_attr {Q : Value → Shared → Prop} {b : Array UInt8} {tv : Tok}
    (X : (K1 w.params).In h) (hC : h.get? C = some (clsObj C N T u1 u2))
    (hN : h.get? N = some (nsObj h1 h2 h3 h4 h5 h6 h7 h8 h9 h10 h11 h12 h13 t1 t2 t3 t4 t5 t6 t7 t8 t9 t10 t11 t12 t13 v1 v2 v3 v4 v5 v6 v7 v8 fi fl p n))
    (hp : h.get? p = some (dscObj C u3))
    (hi : h.get? i = some ⟨.ref C, some di, .plain, #[some (.bytes b tv)]⟩) 
    (hdi : h.get? di = some ⟨.type "dict", none, .dict #[] 0, #[]⟩) (hQ : ∀ tk, Q (.bytes b tv) ⟨h, g, d, tk, os⟩) :
    wpAny (model PySem.Challenge.rw_qh0048_01.row.prog w) A (getAttr (.ref i) (Str.ofString "obj") true) Q E ⟨h, g, d, t, os⟩ := by
  refine e_fresh ?_
  repeat (first | refine e_load hi ?_ | refine e_load hC ?_ | refine e_load hN ?_ | refine e_load hp ?_ | refine e_ask ?_)
  refine e_call ?_
  refine e_callc (c' := .builtin "proto.getattr_hooked" ⟨[.ref i, .str nmObj t], []⟩) (by kernel_rfl) ?_
  refine wpAny_mono (x_hooked rfl X hC hN hp hi hdi) ?_ (fun _ _ q => q)
  rintro _ _ ⟨tk, rfl, rfl⟩
  exact e_pure (hQ tk)
end
end Mine
end

section
open PySem PySem.W PySem.W.X PyProof.Rows PySem.Calls
namespace Mine
variable [Inhabited Base]
/-- an object of the class K that holds four octets -/
def InstK (h : Heap) (C i : Addr) (b : Array UInt8) : Prop := ∃ di tv, h.get? i = some ⟨.ref C, some di, .plain, #[some (.bytes b tv)]⟩ ∧ h.get? di = some ⟨.type "dict", none, .dict #[] 0, #[]⟩
theorem ClsK.keeps {h h' : Heap} {C : Addr} (x : ClsK h C) (k : Keep h h') : ClsK h' C := by
  obtain ⟨N, T, p, fi, fl, ci, cl, cell, oN, oi, ol, oci, ocl, u1, u2, u3, a1, a2, a3, a4, a5, a6, a7, a8, a9, b1, b2, b3, b4⟩ := x
  exact ⟨N, T, p, fi, fl, ci, cl, cell, oN, oi, ol, oci, ocl, u1, u2, u3, k _ _ a1, k _ _ a2, a3, k _ _ a4, k _ _ a5, a6, k _ _ a7, a8, k _ _ a9, b1, k _ _ b2, b3, k _ _ b4⟩
theorem InstK.keeps {h h' : Heap} {C i : Addr} {b : Array UInt8} (x : InstK h C i b) (k : Keep h h') : InstK h' C i b := let ⟨di, tv, a, b⟩ := x; ⟨di, tv, k _ _ a, k _ _ b⟩
theorem ltCells : ∀ x ∈ (stScope (kStmt 3)).names, x.2 ≠ .cell := fun x hx => of_decide_eq_true (List.all_eq_true.mp (by kernel_rfl : ((stScope (kStmt 3)).names.all fun x => decide (x.2 ≠ .cell)) = true) x hx)
section
variable {w : World} {A : Around} {E Q : Value → Shared → Prop} {s : Shared}
theorem lt_fn {C fl i j : Addr} {x0 x1 x2 x3 y0 y1 y2 y3 : UInt8} {N T p fi cl cell : Addr} {u1 u2 u3 : Tok} {pm ct : Value} {oN ocl : Obj} (X : Cx w s.heap) (hA : OkA A 650 360) 
    (hC : s.heap.get? C = some (clsObj C N T u1 u2)) (hN : s.heap.get? N = some oN) (iN : IsNs oN fi fl p) (hp : s.heap.get? p = some (dscObj C u3))
    (hl : s.heap.get? fl = some (fnObj 3 nmLt qnLt [(nmCmp, cell)] pm cl ct)) (hcl : s.heap.get? cl = some ocl) (icl : IsCode ocl nmLt qnLt 164) (hcell : s.heap.get? cell = some (cellObj (.ref 151)))
    (hi : InstK s.heap C i #[x0, x1, x2, x3]) (hj : InstK s.heap C j #[y0, y1, y2, y3])
    (h : ∀ h' tk b, Keep s.heap h' → (b = true ↔ Below4 x0 x1 x2 x3 y0 y1 y2 y3) → Q (.bool b) { s with heap := h', toks := tk }) :
    wpAny (model PySem.Challenge.rw_qh0048_01.row.prog w) A (call (.ref fl) [.ref i, .ref j]) Q E s := by
  obtain ⟨fv, tb, v12, v13, v14, v15, n16, tt0, tt1, tt2, tt18, rfl⟩ := icl
  obtain ⟨_, _, _, _, _, _, _, _, _, _, _, _, _, _, _, _, _, _, _, _, _, _, _, _, _, _, _, _, _, _, _, _, _, _, _, rfl⟩ := iN
  obtain ⟨di, tvi, hi, hdi⟩ := hi
  obtain ⟨dj, tvj, hj, hdj⟩ := hj
  refine wpAny_call (codeAny_call_def (body := stBody (kStmt 3)) (binds := [(Str.ofString "self", .ref i), (Str.ofString "other", .ref j)]) (Nat.lt_of_le_of_lt hA.depth (Nat.le_of_ble_eq_true rfl)) hl rfl X.lim ⟨_, _, _, _, rfl, hcl, rfl, rfl⟩ rfl (BindsTo.of_eq (by kernel_rfl)) ltCells (locs (by kernel_rfl)) (fun h₁ hns k => ?_) rfl rfl rfl)
  refine wpAny_execs_cons ?_
  rw [arm_exec_Return]
  refine e_at ?_
  refine e_bindp () rfl ?_
  refine e_bind ?_
  refine wpAny_Compare1 ?_
  have hX1 := X.keeps k
  refine wpAny_Call_NameR (nm_free (x := nmCmp) (c := cell) rfl ⟨_, k _ _ hcell, rfl⟩ ?_ rfl rfl)
  refine callWith_K hX1.k (by kernel_rfl) ?_
  refine spliced_more (Attribute_Name_ (nm_loc (m := fun y => List.lookup y [(Str.ofString "self", Value.ref i), (Str.ofString "other", Value.ref j)].reverse) hns rfl ?_ rfl rfl) rfl)
  refine x_attr hX1.k (k _ _ hC) (k _ _ hN) (k _ _ hp) (k _ _ hi) (k _ _ hdi) fun tk1 => ?_
  refine spliced_more (Attribute_Name_ (nm_loc (m := fun y => List.lookup y [(Str.ofString "self", Value.ref i), (Str.ofString "other", Value.ref j)].reverse) hns rfl ?_ rfl rfl) rfl)
  refine x_attr hX1.k (k _ _ hC) (k _ _ hN) (k _ _ hp) (k _ _ hj) (k _ _ hdj) fun tk2 => ?_
  refine spliced_none ⟨hX1.k, ?_⟩
  refine cmp_spec hX1 (hA.deeper.mono (Nat.le_of_ble_eq_true rfl) (Nat.le_of_ble_eq_true rfl)) fun h' tk c t' k' hc => ?_
  refine e_eq (m' := .fresh fun t => .pure (.int 0 t)) rfl ?_
  refine e_fresh ?_
  refine e_pure ?_
  refine PyProof.Rows.lt_int ?_
  exact e_pure (h h' _ _ (Keep.trans k k') (by rw [decide_eq_true_iff]; exact hc))
theorem lt_key {Q : Bool → Shared → Prop} {C i j : Addr} {x0 x1 x2 x3 y0 y1 y2 y3 : UInt8} (X : Cx w s.heap) (hA : OkA A 650 350) (K : ClsK s.heap C)
    (hi : InstK s.heap C i #[x0, x1, x2, x3]) (hj : InstK s.heap C j #[y0, y1, y2, y3])
    (h : ∀ h' tk b, Keep s.heap h' → (b = true ↔ Below4 x0 x1 x2 x3 y0 y1 y2 y3) → Q b { s with heap := h', toks := tk }) :
    wpAny (model PySem.Challenge.rw_qh0048_01.row.prog w) A (keyLt' oneType' (.ref i) (.ref j)) Q E s := by
  obtain ⟨N, T, p, fi, fl, ci, cl, cell, oN, oi, ol, oci, ocl, u1, u2, u3, hC, hN, iN, hp, hfi, _, hci, _, hl, ⟨pm, ct, rfl⟩, hcl, icl, hcell⟩ := K
  rw [keyLt'_oneType, oneLt'_eq, if_pos rfl]
  refine wpAny_bind (wpAny_cRoomFor (Nat.lt_of_le_of_lt hA.units (Nat.le_of_ble_eq_true rfl)) ?_)
  refine e_bind ?_
  unfold callSpecialIfBound?
  refine wpAny_holding ?_
  refine e_bind ?_
  obtain ⟨_, _, _, _, _, _, _, _, _, _, _, _, _, _, _, _, _, _, _, _, _, _, _, _, _, _, _, _, _, _, _, _, _, _, _, e⟩ := id iN
  obtain ⟨di, tvi, hi1, hi2⟩ := id hi
  refine x_bind X.k hC (e ▸ hN) hl hi1 ?_
  refine e_bind ?_
  refine lt_fn X (hA.mono (Nat.le_refl _) (Nat.le_of_ble_eq_true rfl)) hC hN iN hp hl hcl icl hcell hi hj fun h' tk b k hb => ?_
  refine e_pure ?_
  exact e_pure (h h' tk b k hb)
end
end Mine
end

section
open PySem PySem.W PySem.W.X PyProof.Rows PySem.Calls
namespace Mine
variable [Inhabited Base]
section
variable {w : World} {A : Around} {E Q : Value → Shared → Prop} {s : Shared}
theorem mk_spec {C : Addr} {b : Array UInt8} {t : Tok} (X : Cx w s.heap) (hA : OkA A 680 400) (K : ClsK s.heap C)
    (h : ∀ i h' tk, Keep s.heap h' → s.heap.get? i = none → InstK h' C i b → Q (.ref i) { s with heap := h', toks := tk }) :
    wpAny (model PySem.Challenge.rw_qh0048_01.row.prog w) A (call (.ref C) [.bytes b t]) Q E s := by
  obtain ⟨N, T, p, fi, fl, ci, cl, cell, oN, oi, ol, oci, ocl, u1, u2, u3, hC, hN, iN, hp, hfi, ⟨pm, rfl⟩, hci, ici, _⟩ := K
  obtain ⟨fv, tb, v12, v13, v14, v15, n16, tt0, tt1, tt2, tt18, rfl⟩ := ici
  obtain ⟨_, _, _, _, _, _, _, _, _, _, _, _, _, _, _, _, _, _, _, _, _, _, _, _, _, _, _, _, _, _, _, _, _, _, _, rfl⟩ := iN
  refine hA.wp fun l => wpAny_mono (mk_call (E := E) rfl X.k hC hN hp hfi hci) (fun v s' x => ?_) fun _ _ e => e
  obtain ⟨i, d, h', tk, rfl, rfl, k, hi, _, _, h1, h2⟩ := x
  exact h i h' tk k hi ⟨d, t, h1, h2⟩
theorem kind3 {Q : SortKind → Shared → Prop} {C i1 i2 i3 : Addr} {b1 b2 b3 : Array UInt8} (h1 : InstK s.heap C i1 b1) (h2 : InstK s.heap C i2 b2) (h3 : InstK s.heap C i3 b3) (h : Q oneType' s) :
    wpAny (model PySem.Challenge.rw_qh0048_01.row.prog w) A (keyKind' (List.toArray [.ref i1, .ref i2, .ref i3])) Q E s := by
  obtain ⟨_, _, e1, _⟩ := h1
  obtain ⟨_, _, e2, _⟩ := h2
  obtain ⟨_, _, e3, _⟩ := h3
  rw [keyKind'_eq, List.mapM_toArray]
  refine e_load e1 ?_
  refine e_load e2 ?_
  refine e_load e3 ?_
  refine e_bindp #[none, none, none] rfl ?_
  refine e_nb (by kernel_rfl) ?_
  refine e_nb (by kernel_rfl) ?_
  refine e_bind ?_
  rw [oneTypeOnly'_eq]
  refine e_bind ?_
  rw [List.mapM_toArray]
  refine e_load e1 ?_
  refine e_load e2 ?_
  refine e_load e3 ?_
  refine e_pure ?_
  refine e_eq (m' := .pure (some (.ref C))) ?_ ?_
  · show Sem.pure (if (#[Value.ref C, Value.ref C, Value.ref C].all fun x => x == Value.ref C) = true then some (Value.ref C) else none) = _
    rw [if_pos (by simp)]
  · exact e_pure (e_pure h)
end
end Mine
end

section
open PySem PySem.W PySem.W.X PyProof.Rows PySem.Calls
namespace Mine
/-- the sign of a figure below 64 -/
def sgn (f : Nat) : UInt8 := if f < 26 then UInt8.ofNat (65 + f) else if f < 52 then UInt8.ofNat (71 + f) else if f < 62 then UInt8.ofNat (f - 4) else if f = 62 then 43 else 47
theorem fig_sgn' : ∀ f : Fin 64, figure ((sgn f.val).toNat : Int) = (f.val : Int) := by decide +kernel
theorem fig_sgn {f : Nat} (h : f < 64) : figure ((sgn f).toNat : Int) = (f : Int) := fig_sgn' ⟨f, h⟩
def u24 (x : Int) : Nat := (x % 16777216).toNat
def P0 (x : Int) : UInt8 := sgn (u24 x / 262144)
def P1 (x : Int) : UInt8 := sgn (u24 x / 4096 % 64)
def P2 (x : Int) : UInt8 := sgn (u24 x / 64 % 64)
def P3 (x : Int) : UInt8 := sgn (u24 x % 64)
/-- the piece of a number -/
def pc (x : Int) : Array UInt8 := #[P0 x, P1 x, P2 x, P3 x]
def InR (x : Int) : Prop := -8388608 ≤ x ∧ x < 8388608
theorem u24_lt (x : Int) : u24 x < 16777216 := by unfold u24; omega
theorem lexstep {p q r s : Int} (hr : 0 ≤ r) (hr' : r < 64) (hs : 0 ≤ s) (hs' : s < 64) : (p * 64 + r < q * 64 + s) ↔ (p < q ∨ (p = q ∧ r < s)) := by omega
theorem eqstep {p q r s : Int} (hr : 0 ≤ r) (hr' : r < 64) (hs : 0 ≤ s) (hs' : s < 64) : (p * 64 + r = q * 64 + s) ↔ (p = q ∧ r = s) := by omega
theorem lexprop {A0 E0 A1 E1 A2 E2 A3 : Prop} : (((A0 ∨ E0 ∧ A1) ∨ (E0 ∧ E1) ∧ A2) ∨ ((E0 ∧ E1) ∧ E2) ∧ A3) ↔ (A0 ∨ (E0 ∧ (A1 ∨ (E1 ∧ (A2 ∨ (E2 ∧ A3)))))) := by
  constructor
  · rintro (((h | ⟨h, k⟩) | ⟨⟨h, k⟩, l⟩) | ⟨⟨⟨h, k⟩, l⟩, m⟩)
    · exact .inl h
    · exact .inr ⟨h, .inl k⟩
    · exact .inr ⟨h, .inr ⟨k, .inl l⟩⟩
    · exact .inr ⟨h, .inr ⟨k, .inr ⟨l, m⟩⟩⟩
  · rintro (h | ⟨h, k | ⟨k, l | ⟨l, m⟩⟩⟩)
    · exact .inl (.inl (.inl h))
    · exact .inl (.inl (.inr ⟨h, k⟩))
    · exact .inl (.inr ⟨⟨h, k⟩, l⟩)
    · exact .inr ⟨⟨⟨h, k⟩, l⟩, m⟩
theorem base64 (a b c d : Int) : a * 262144 + b * 4096 + c * 64 + d - 8388608 = ((a * 64 + b) * 64 + c) * 64 + d - 8388608 := by omega
theorem lex_num {a0 a1 a2 a3 b0 b1 b2 b3 : Nat} {x y : Int} (ha1 : a1 < 64) (ha2 : a2 < 64) (ha3 : a3 < 64) (hb1 : b1 < 64) (hb2 : b2 < 64) (hb3 : b3 < 64)
    {a0' b0' : Int} (ex : x = a0' * 262144 + a1 * 4096 + a2 * 64 + a3 - 8388608) (ey : y = b0' * 262144 + b1 * 4096 + b2 * 64 + b3 - 8388608) : Lex4 a0' a1 a2 a3 b0' b1 b2 b3 ↔ x < y := by
  have n : ∀ k : Nat, (0 : Int) ≤ k := Int.natCast_nonneg
  have m : ∀ {k : Nat}, k < 64 → (k : Int) < 64 := fun h => Int.ofNat_lt.mpr h
  rw [ex, ey, base64, base64, Int.sub_lt_sub_right_iff, lexstep (n _) (m ha3) (n _) (m hb3), lexstep (n _) (m ha2) (n _) (m hb2), lexstep (n _) (m ha1) (n _) (m hb1), eqstep (n _) (m ha2) (n _) (m hb2), eqstep (n _) (m ha1) (n _) (m hb1), lexprop]
  exact Iff.rfl
theorem fig_hi {x : Int} (h : InR x) : x = Int.fmod (figure ((P0 x).toNat : Int) + 32) 64 * 262144 + ((u24 x / 4096 % 64 : Nat) : Int) * 4096 + ((u24 x / 64 % 64 : Nat) : Int) * 64 + ((u24 x % 64 : Nat) : Int) - 8388608 := by
  have l := u24_lt x
  unfold P0
  rw [fig_sgn (by omega), Int.fmod_eq_emod_of_nonneg _ (by omega)]
  unfold InR at h
  unfold u24 at *
  omega
theorem below_pc {x y : Int} (hx : InR x) (hy : InR y) : Below4 (P0 x) (P1 x) (P2 x) (P3 x) (P0 y) (P1 y) (P2 y) (P3 y) ↔ x < y := by
  have ex := fig_hi hx
  have ey := fig_hi hy
  unfold Below4 P1 P2 P3
  rw [fig_sgn (Nat.mod_lt _ (by decide)), fig_sgn (Nat.mod_lt _ (by decide)), fig_sgn (Nat.mod_lt _ (by decide)), fig_sgn (Nat.mod_lt _ (by decide)), fig_sgn (Nat.mod_lt _ (by decide)), fig_sgn (Nat.mod_lt _ (by decide))]
  exact lex_num (a0 := 0) (b0 := 0) (Nat.mod_lt _ (by decide)) (Nat.mod_lt _ (by decide)) (Nat.mod_lt _ (by decide)) (Nat.mod_lt _ (by decide)) (Nat.mod_lt _ (by decide)) (Nat.mod_lt _ (by decide)) ex ey
/-- the middle one of three -/
def med (a b c : Int) : Int := max (min a b) (min (max a b) c)
theorem max_or (x y : Int) : max x y = x ∨ max x y = y := by
  rw [Int.max_def]; split
  · exact .inr rfl
  · exact .inl rfl
theorem min_or (x y : Int) : min x y = x ∨ min x y = y := by
  rw [Int.min_def]; split
  · exact .inl rfl
  · exact .inr rfl
theorem med_or (a b c : Int) : med a b c = a ∨ med a b c = b ∨ med a b c = c := by
  unfold med
  rcases max_or (min a b) (min (max a b) c) with e | e <;> rw [e]
  · rcases min_or a b with f | f <;> rw [f]
    · exact .inl rfl
    · exact .inr (.inl rfl)
  · rcases min_or (max a b) c with f | f <;> rw [f]
    · rcases max_or a b with g | g <;> rw [g]
      · exact .inl rfl
      · exact .inr (.inl rfl)
    · exact .inr (.inr rfl)
end Mine
end

section
open PySem PySem.W PySem.W.X PyProof.Rows PySem.Calls
namespace Mine
variable [Inhabited Base]
/-- objects that the sort leaves alone -/
def kpO (o : Obj) : Bool := match o.data with | .seq _ _ => false | .dict es _ => (nsFind es nmK).isNone | _ => true
def KeepO (h h' : Heap) : Prop := ∀ b o, kpO o = true → h.get? b = some o → h'.get? b = some o
theorem kpN {o : Obj} {fi fl p : Addr} (x : IsNs o fi fl p) : kpO o = true := by
  obtain ⟨_, _, _, _, _, _, _, _, _, _, _, _, _, _, _, _, _, _, _, _, _, _, _, _, _, _, _, _, _, _, _, _, _, _, _, rfl⟩ := x
  kernel_rfl
theorem kpC {o : Obj} {nm qn : Str} {ln : Int} (x : IsCode o nm qn ln) : kpO o = true := by obtain ⟨_, _, _, _, _, _, _, _, _, _, _, rfl⟩ := x; rfl
theorem ClsK.keepsO {h h' : Heap} {C : Addr} (x : ClsK h C) (k : KeepO h h') : ClsK h' C := by
  obtain ⟨N, T, p, fi, fl, ci, cl, cell, oN, oi, ol, oci, ocl, u1, u2, u3, a1, a2, a3, a4, a5, ⟨pm, rfl⟩, a7, a8, a9, ⟨pm', ct, rfl⟩, b2, b3, b4⟩ := x
  exact ⟨N, T, p, fi, fl, ci, cl, cell, oN, _, _, oci, ocl, u1, u2, u3, k _ _ rfl a1, k _ _ (kpN a3) a2, a3, k _ _ rfl a4, k _ _ rfl a5, ⟨pm, rfl⟩, k _ _ (kpC a8) a7, a8, k _ _ rfl a9, ⟨pm', ct, rfl⟩, k _ _ (kpC b3) b2, b3, k _ _ rfl b4⟩
theorem InstK.keepsO {h h' : Heap} {C i : Addr} {b : Array UInt8} (x : InstK h C i b) (k : KeepO h h') : InstK h' C i b := let ⟨di, tv, a, b⟩ := x; ⟨di, tv, k _ _ rfl a, k _ _ rfl b⟩
def liveBut (h : Heap) (L : Addr) : List (Addr × Obj) := (List.range h.objs.size).filterMap fun a => if a = L then none else (h.get? a).map fun o => (a, o)
theorem mem_live {h : Heap} {L a : Addr} {o : Obj} : (a, o) ∈ liveBut h L ↔ a ≠ L ∧ h.get? a = some o := by
  unfold liveBut
  rw [List.mem_filterMap]
  constructor
  · rintro ⟨b, _, e⟩
    split at e
    · cases e
    · rename_i n
      cases q : h.get? b with
      | none => rw [q] at e; cases e
      | some x => rw [q] at e; cases e; exact ⟨n, q⟩
  · rintro ⟨n, e⟩
    exact ⟨a, List.mem_range.mpr (Heap.lt_size e), by rw [if_neg n, e]; rfl⟩
theorem live_nd (h : Heap) (L : Addr) : ((liveBut h L).map (·.1)).Nodup := by
  unfold liveBut
  refine List.pairwise_map.mpr (List.pairwise_filterMap.mpr (List.nodup_range.imp fun {a b} n p hp q hq => ?_))
  split at hp
  · cases hp
  split at hq
  · cases hq
  cases e1 : h.get? a with
  | none => rw [e1] at hp; cases hp
  | some x =>
    cases e2 : h.get? b with
    | none => rw [e2] at hq; cases hq
    | some y => rw [e1] at hp; rw [e2] at hq; cases hp; cases hq; exact n
theorem updF_of {a : Addr} {o : Obj} : ∀ {l : List (Addr × Obj)}, (l.map (·.1)).Nodup → (a, o) ∈ l → ∃ g, UpdF a o l g ∧ ∀ o' q, q = (a, o') ∨ (q ∈ l ∧ q.1 ≠ a) → q ∈ g o'
  | x :: l, nd, hm => by
    rw [List.map_cons, List.nodup_cons] at nd
    by_cases e : x = (a, o)
    · subst e
      refine ⟨_, .head fun p hp z => nd.1 (by rw [← z]; exact List.mem_map_of_mem (f := (·.1)) hp), fun o' q hq => ?_⟩
      rcases hq with rfl | ⟨hq, n⟩
      · exact .head _
      · rcases List.mem_cons.mp hq with rfl | hq
        · exact absurd rfl n
        · exact .tail _ hq
    · have hm' : (a, o) ∈ l := by
        rcases List.mem_cons.mp hm with z | z
        · exact absurd z.symm e
        · exact z
      obtain ⟨g, U, hg⟩ := updF_of nd.2 hm'
      have n1 : x.1 ≠ a := fun z => nd.1 (by rw [z]; exact List.mem_map_of_mem (f := (·.1)) hm')
      refine ⟨_, .tail n1 U, fun o' q hq => ?_⟩
      rcases hq with rfl | ⟨hq, n⟩
      · exact .tail _ (hg o' _ (.inl rfl))
      · rcases List.mem_cons.mp hq with rfl | hq
        · exact .head _
        · exact .tail _ (hg o' q (.inr ⟨hq, n⟩))
def noH : Heap := ⟨#[], {}⟩
theorem noH_get (b : Addr) : noH.get? b = none := by unfold noH Heap.get?; simp
theorem frE {h : Heap} {L : Addr} {m : Str → Option Value} (ns : h.Ns L m) : Fr noH L h m := ⟨ns, fun b o e => (by rw [noH_get] at e; cases e), Nat.zero_le _⟩
theorem newsE (h : Heap) (L : Addr) : News noH L h (liveBut h L) := fun p hp => ⟨(mem_live.mp hp).2, (mem_live.mp hp).1, noH_get _⟩
theorem upd_step {h : Heap} {L a : Addr} {o : Obj} {m : Str → Option Value} (ha : h.get? a = some o) (hL : a ≠ L) :
    ∃ g, UpdF a o (liveBut h L) g ∧ ∀ h' o', Fr noH L h' m → News noH L h' (g o') → h'.Ns L m ∧ h'.get? a = some o' ∧ ∀ b ob, b ≠ a → b ≠ L → h.get? b = some ob → h'.get? b = some ob := by
  obtain ⟨g, U, hg⟩ := updF_of (live_nd h L) (mem_live.mpr ⟨hL, ha⟩)
  exact ⟨g, U, fun h' o' F N => ⟨F.ns, (N _ (hg o' _ (.inl rfl))).1, fun b ob n1 n2 e => (N (b, ob) (hg o' _ (.inr ⟨mem_live.mpr ⟨n2, e⟩, n1⟩))).1⟩⟩
theorem ns_kp {h : Heap} {L : Addr} {m : Str → Option Value} {v : Value} (ns : h.Ns L m) (hm : m nmK = some v) {o : Obj} (e : h.get? L = some o) : kpO o = false := by
  obtain ⟨o', es, ep, ho, hd, _, hf⟩ := ns
  rw [e] at ho; cases ho
  unfold kpO; rw [hd]; show (nsFind es nmK).isNone = false
  rw [hf, hm]; rfl
theorem KeepO.trans {h h' h'' : Heap} (a : KeepO h h') (b : KeepO h' h'') : KeepO h h'' := fun x o q e => b x o q (a x o q e)
theorem Keep.toO {h h' : Heap} (a : Keep h h') : KeepO h h' := fun b o _ e => a b o e
theorem KeepO.toC {h h' : Heap} (a : KeepO h h') : KeepC h h' := fun b o q e => a b o (by
  rcases q with q | q
  · unfold isTab at q; unfold kpO
    split at q
    · rename_i e2; rw [e2]
    · cases q
  · unfold isCd at q; unfold kpO
    split at q
    · rename_i e2; rw [e2]
    · cases q) e
/-- what stands between two steps of the sort -/
structure SI (w : World) (hb g : Heap) (C L : Addr) (m : Str → Option Value) (h : Heap) : Prop where
  kb : KeepB hb h
  al : ∀ b, h.get? b = none → hb.get? b = none
  cls : ClsK h C
  ns : h.Ns L m
  ko : KeepO g h
theorem SI.keeps {w : World} {hb g : Heap} {C L : Addr} {m : Str → Option Value} {h h' : Heap} (x : SI w hb g C L m h) (k : Keep h h') : SI w hb g C L m h' :=
  ⟨x.kb.trans k.toB, fun b e => x.al b (al_of k b e), x.cls.keeps k, x.ns.keeps k, x.ko.trans k.toO⟩
theorem SI.upd {w : World} {hb g : Heap} {C L a : Addr} {m : Str → Option Value} {h h' : Heap} {v : Value} {o o' : Obj} (x : SI w hb g C L m h) (hm : m nmK = some v) (hbL : hb.get? L = none) (hba : hb.get? a = none) (ha : h.get? a = some o) (ko : kpO o = false)
    (ns : h'.Ns L m) (ha' : h'.get? a = some o') (k : ∀ b ob, b ≠ a → b ≠ L → h.get? b = some ob → h'.get? b = some ob) : SI w hb g C L m h' ∧ KeepO h h' := by
  have kO : KeepO h h' := fun b ob q e => k b ob (fun z => by subst z; rw [ha] at e; cases e; rw [ko] at q; cases q) (fun z => by subst z; rw [ns_kp x.ns hm e] at q; cases q) e
  refine ⟨⟨fun b ob q e => k b ob (fun z => ?_) (fun z => ?_) (x.kb b ob q e), fun b e => x.al b ?_, x.cls.keepsO kO, ns, x.ko.trans kO⟩, kO⟩
  · subst z; rw [hba] at e; cases e
  · subst z; rw [hbL] at e; cases e
  · cases q : h.get? b with
    | none => rfl
    | some ob =>
      by_cases n1 : b = a
      · subst n1; rw [ha'] at e; cases e
      by_cases n2 : b = L
      · subst n2; obtain ⟨oL, _, _, hoL, _⟩ := ns; rw [hoL] at e; cases e
      rw [k b ob n1 n2 q] at e; cases e
end Mine
end

section
open PySem PySem.W PySem.W.X PyProof.Rows PySem.Calls
namespace Mine
theorem tree3 {cmp : Nat → Nat → (Bool → Shared → Prop) → Shared → Prop} {Q : Array Nat → Shared → Prop} {J : Shared → Prop} {s : Shared} (num : Nat → Int)
    (ask : ∀ i j K s, i < 3 → j < 3 → J s → (∀ b s', J s' → (b = true ↔ num i < num j) → K b s') → cmp i j K s)
    (done : ∀ i j k s', J s' → i < 3 → j < 3 → k < 3 → num j = med (num 0) (num 1) (num 2) → Q #[i, j, k] s') (hJ : J s) : (kas_sort 3).kasWp cmp Q s := by
  have T : ∀ {x y : Int}, (true = true ↔ x < y) → x < y := fun h => h.mp rfl
  have F : ∀ {x y : Int}, (false = true ↔ x < y) → ¬ x < y := fun h z => Bool.noConfusion (h.mpr z)
  show cmp 1 0 _ s
  refine ask 1 0 _ _ (by decide) (by decide) hJ fun b s J1 h => ?_
  cases b with
  | true =>
    have h1 := T h
    show cmp 2 1 _ s
    refine ask 2 1 _ _ (by decide) (by decide) J1 fun b s J1 h => ?_
    cases b with
    | true => have h2 := T h; exact done 2 1 0 _ J1 (by decide) (by decide) (by decide) (by unfold med; lia)
    | false =>
      have h2 := F h
      show cmp 1 2 _ s
      refine ask 1 2 _ _ (by decide) (by decide) J1 fun b s J1 h => ?_
      cases b with
      | true =>
        have h3 := T h
        show cmp 2 0 _ s
        refine ask 2 0 _ _ (by decide) (by decide) J1 fun b s J1 h => ?_
        cases b with
        | true =>
          have h4 := T h
          show cmp 2 0 _ s
          refine ask 2 0 _ _ (by decide) (by decide) J1 fun b s J1 h => ?_
          cases b with
          | true =>
            show cmp 2 1 _ s
            refine ask 2 1 _ _ (by decide) (by decide) J1 fun b s J1 h => ?_
            cases b with
            | true => have := T h; exact absurd this h2
            | false => exact done 1 2 0 _ J1 (by decide) (by decide) (by decide) (by unfold med; lia)
          | false => exact absurd h4 (F h)
        | false => have h4 := F h; exact done 1 0 2 _ J1 (by decide) (by decide) (by decide) (by unfold med; lia)
      | false => have h3 := F h; exact done 1 2 0 _ J1 (by decide) (by decide) (by decide) (by unfold med; lia)
  | false =>
    have h1 := F h
    show cmp 2 1 _ s
    refine ask 2 1 _ _ (by decide) (by decide) J1 fun b s J1 h => ?_
    cases b with
    | true =>
      have h2 := T h
      show cmp 0 1 _ s
      refine ask 0 1 _ _ (by decide) (by decide) J1 fun b s J1 h => ?_
      cases b with
      | true =>
        have h3 := T h
        show cmp 2 1 _ s
        refine ask 2 1 _ _ (by decide) (by decide) J1 fun b s J1 h => ?_
        cases b with
        | true =>
          show cmp 2 0 _ s
          refine ask 2 0 _ _ (by decide) (by decide) J1 fun b s J1 h => ?_
          cases b with
          | true => have h4 := T h; exact done 2 0 1 _ J1 (by decide) (by decide) (by decide) (by unfold med; lia)
          | false => have h4 := F h; exact done 0 2 1 _ J1 (by decide) (by decide) (by decide) (by unfold med; lia)
        | false => exact absurd h2 (F h)
      | false => have h3 := F h; exact done 2 0 1 _ J1 (by decide) (by decide) (by decide) (by unfold med; lia)
    | false => have h2 := F h; exact done 0 1 2 _ J1 (by decide) (by decide) (by decide) (by unfold med; lia)
end Mine
end

section
open PySem PySem.W PySem.W.X PyProof.Rows PySem.Calls
namespace Mine
variable [Inhabited Base]
section
variable {w : World} {A : Around} {E Q : Value → Shared → Prop} {s : Shared}
theorem sort3 {hb : Heap} {C L l : Addr} {m : Str → Option Value} {v : Value} {a b c : Int} {t1 t2 t3 : Tok} (X0 : CxB w hb) (I : SI w hb s.heap C L m s.heap) (hm : m nmK = some v) (hbL : hb.get? L = none) (hA : OkA A 640 300)
    (ra : InR a) (rb : InR b) (rc : InR c) (hl : s.heap.IsList l (List.toArray [.bytes (pc a) t1, .bytes (pc b) t2, .bytes (pc c) t3]))
    (h : ∀ D h' tk n x y t, KeepB hb h' → (∀ b, h'.get? b = none → hb.get? b = none) → KeepO s.heap h' → hb.get? D = none → h'.get? D = some (W.listOf #[x, .bytes (pc (med a b c)) t, y] n) → Q (.ref D) { s with heap := h', toks := tk }) :
    wpAny (model PySem.Challenge.rw_qh0048_01.row.prog w) A (call (.builtin "sorted") [.ref l] [(Str.ofString "key", .ref C)]) Q E s := by
  refine kat_sortedK (frE I.ns) (newsE s.heap L) hl (Nat.le_of_ble_eq_true rfl) (Nat.le_of_ble_eq_true rfl) (ksk_s1 _ _) (fun x => ksk_l1 _ _) (fun x => ksk_t1 _ _) ?_
  intro D kS e1 h1 F1 N1 hDk hDl
  have hA2 : OkA A.in1.in1 650 302 := hA.in1.in1.mono (Nat.le_of_ble_eq_true rfl) (Nat.le_refl _)
  have nD := (N1 _ (.tail _ (.head _))).2.1
  have nk := (N1 _ (.head _)).2.1
  have oD := (N1 _ (.tail _ (.head _))).1
  have ok := (N1 _ (.head _)).1
  dsimp only at nD nk oD ok
  have fresh : ∀ z, z ≠ L → D ≤ z → s.heap.get? z = none := fun z n q => by
    cases e : s.heap.get? z with
    | none => rfl
    | some o => exact absurd (Nat.lt_of_lt_of_le (hDl _ (mem_live.mpr ⟨n, e⟩)) q) (Nat.lt_irrefl _)
  have hbD : hb.get? D = none := I.al _ (fresh D nD (Nat.le_refl _))
  have hbk : hb.get? kS = none := I.al _ (fresh kS nk (Nat.le_of_lt hDk))
  have Dk : D ≠ kS := Nat.ne_of_lt hDk
  have k1 : ∀ b ob, b ≠ L → s.heap.get? b = some ob → h1.get? b = some ob := fun b ob n e => (N1 (b, ob) (.tail _ (.tail _ (mem_live.mpr ⟨n, e⟩)))).1
  have I1 : SI w hb s.heap C L m h1 := by
    refine ⟨fun b ob q e => k1 b ob (fun z => ?_) (I.kb b ob q e), fun b e => I.al b ?_, I.cls.keepsO fun b ob q e => k1 b ob (fun z => ?_) e, F1.ns, fun b ob q e => k1 b ob (fun z => ?_) e⟩
    · subst z; rw [hbL] at e; cases e
    · cases q : s.heap.get? b with
      | none => rfl
      | some ob =>
        by_cases n2 : b = L
        · subst n2; obtain ⟨oL, _, _, hoL, _⟩ := F1.ns; rw [hoL] at e; cases e
        rw [k1 b ob n2 q] at e; cases e
    · subst z; rw [ns_kp I.ns hm e] at q; cases q
    · subst z; rw [ns_kp I.ns hm e] at q; cases q
  clear fresh k1 N1 F1
  -- the first key
  refine KatKeys.cons (mk_spec ((X0.keeps I1.kb).cx) (hA2.mono (Nat.le_of_ble_eq_true rfl) (Nat.le_of_ble_eq_true rfl)) I1.cls fun i1 h2 tk k hi K1 => ?_)
  replace I1 := I1.keeps k
  replace ok := k _ _ ok
  replace oD := k _ _ oD
  clear k hi
  obtain ⟨g, U, st⟩ := upd_step (m := m) ok nk
  refine KatBack.intro (frE I1.ns) (newsE _ _) U fun h3 c3 F3 N3 => ?_
  obtain ⟨ns, ok', kk⟩ := st h3 _ F3 N3
  obtain ⟨I3, kO⟩ := I1.upd hm hbL hbk ok rfl ns ok' kk
  replace K1 := K1.keepsO kO
  replace oD := kk _ _ Dk nD oD
  replace ok := ok'
  clear ok' kk ns kO I1 st U F3 N3 g
  -- the second key
  refine KatKeys.cons (mk_spec ((X0.keeps I3.kb).cx) (hA2.mono (Nat.le_of_ble_eq_true rfl) (Nat.le_of_ble_eq_true rfl)) I3.cls fun i2 h2 tk k hi K2 => ?_)
  replace I3 := I3.keeps k
  replace ok := k _ _ ok
  replace oD := k _ _ oD
  replace K1 := K1.keeps k
  clear k hi
  obtain ⟨g, U, st⟩ := upd_step (m := m) ok nk
  refine KatBack.intro (frE I3.ns) (newsE _ _) U fun h3 c4 F3 N3 => ?_
  obtain ⟨ns, ok', kk⟩ := st h3 _ F3 N3
  obtain ⟨I4, kO⟩ := I3.upd hm hbL hbk ok rfl ns ok' kk
  replace K1 := K1.keepsO kO
  replace K2 := K2.keepsO kO
  replace oD := kk _ _ Dk nD oD
  replace ok := ok'
  clear ok' kk ns kO I3 st U F3 N3 g
  -- the third key
  refine KatKeys.cons (mk_spec ((X0.keeps I4.kb).cx) (hA2.mono (Nat.le_of_ble_eq_true rfl) (Nat.le_of_ble_eq_true rfl)) I4.cls fun i3 h2 tk k hi K3 => ?_)
  replace I4 := I4.keeps k
  replace ok := k _ _ ok
  replace oD := k _ _ oD
  replace K1 := K1.keeps k
  replace K2 := K2.keeps k
  clear k hi
  obtain ⟨g, U, st⟩ := upd_step (m := m) ok nk
  refine KatBack.intro (frE I4.ns) (newsE _ _) U fun h3 c5 F3 N3 => ?_
  obtain ⟨ns, ok', kk⟩ := st h3 _ F3 N3
  obtain ⟨I5, kO⟩ := I4.upd hm hbL hbk ok rfl ns ok' kk
  replace K1 := K1.keepsO kO
  replace K2 := K2.keepsO kO
  replace K3 := K3.keepsO kO
  replace oD := kk _ _ Dk nD oD
  replace ok := ok'
  clear ok' kk ns kO I4 st U F3 N3 g
  refine KatKeys.nil ?_
  refine kind3 K1 K2 K3 ?_
  have X5 := (X0.keeps I5.kb).cx
  have leaf : ∀ (h6 : Heap) (tk6 : Nat) (out : List Value) (x y : Value) (t : Tok), SI w hb s.heap C L m h6 → h6.get? kS = some (seqObj "list" (List.toArray ([] ++ [.ref i1] ++ [.ref i2] ++ [.ref i3])) c5) → h6.get? D = some (seqObj "list" #[] e1) → out = [x, .bytes (pc (med a b c)) t, y] →
      KatFin noH L m kS D ([] ++ [.ref i1] ++ [.ref i2] ++ [.ref i3]) c5 e1 out (fun s4 => Q (.ref D) s4) { s with heap := h6, toks := tk6 } := by
    intro h6 tk6 out x y t I6 ok6 oD6 eo
    obtain ⟨g, U, st⟩ := upd_step (m := m) ok6 nk
    refine KatFin.intro (frE I6.ns) (newsE _ _) U fun h7 c7 F7 N7 => ?_
    obtain ⟨ns7, ok7, kk7⟩ := st h7 _ F7 N7
    have I7 := (I6.upd hm hbL hbk ok6 rfl ns7 ok7 kk7).1
    have oD7 := kk7 _ _ Dk nD oD6
    obtain ⟨g2, U2, st2⟩ := upd_step (m := m) oD7 nD
    refine KasFin.intro (frE ns7) (newsE _ _) U2 fun h8 c8 F8 N8 => ?_
    obtain ⟨ns8, oD8, kk8⟩ := st2 h8 _ F8 N8
    have I8 := (I7.upd hm hbL hbD oD7 rfl ns8 oD8 kk8).1
    exact h D h8 tk6 c8 x y t I8.kb I8.al I8.ko hbD (by rw [oD8, eo])
  have done : ∀ (i j k : Nat) (s' : Shared), (∃ h6 tk6, s' = { s with heap := h6, toks := tk6 } ∧ Keep h3 h6) → i < 3 → j < 3 → k < 3 → (fun n : Nat => if n = 0 then a else if n = 1 then b else c) j = med a b c →
      KatFin noH L m kS D ([] ++ [.ref i1] ++ [.ref i2] ++ [.ref i3]) c5 e1 (katRev false (List.map (fun i => (katRev false [.bytes (pc a) t1, .bytes (pc b) t2, .bytes (pc c) t3]).getD i Value.none) [i, j, k])) (fun s4 => Q (.ref D) s4) s' := by
    rintro i j k _ ⟨h6, tk6, rfl, kp⟩ hi hj hk hm'
    have I6 := I5.keeps kp
    have hv : ∃ t, (katRev false [Value.bytes (pc a) t1, .bytes (pc b) t2, .bytes (pc c) t3]).getD j Value.none = .bytes (pc (med a b c)) t := by
      rcases (by lia : j = 0 ∨ j = 1 ∨ j = 2) with rfl | rfl | rfl
      · exact ⟨t1, by rw [← hm']; rfl⟩
      · exact ⟨t2, by rw [← hm']; rfl⟩
      · exact ⟨t3, by rw [← hm']; rfl⟩
    obtain ⟨t, hv⟩ := hv
    exact leaf h6 tk6 _ _ _ t I6 (kp _ _ ok) (kp _ _ oD) (by rw [← hv]; rfl)
  refine tree3 (J := fun s' => ∃ h6 tk6, s' = { s with heap := h6, toks := tk6 } ∧ Keep h3 h6) (fun n => if n = 0 then a else if n = 1 then b else c) ?_ (fun i j k s' J hi hj hk hm' => done i j k s' J hi hj hk hm') ⟨h3, _, rfl, Keep.refl _⟩
  rintro i j K _ hi hj ⟨h6, tk6, rfl, kp⟩ hK
  have X6 := X5.keeps kp
  have C6 := I5.cls.keeps kp
  have item : ∀ n : Nat, n < 3 → ∃ (ad : Addr), ([] ++ [Value.ref i1] ++ [Value.ref i2] ++ [Value.ref i3]).getD n Value.none = .ref ad ∧ InstK h6 C ad (pc (if n = 0 then a else if n = 1 then b else c)) ∧ InR (if n = 0 then a else if n = 1 then b else c) := by
    intro n hn
    rcases (by lia : n = 0 ∨ n = 1 ∨ n = 2) with rfl | rfl | rfl
    · exact ⟨i1, rfl, K1.keeps kp, ra⟩
    · exact ⟨i2, rfl, K2.keeps kp, rb⟩
    · exact ⟨i3, rfl, K3.keeps kp, rc⟩
  obtain ⟨p, ep, Kp, rp⟩ := item i hi
  obtain ⟨q, eq, Kq, rq⟩ := item j hj
  show wpAny _ _ (keyLt' oneType' (([] ++ [Value.ref i1] ++ [Value.ref i2] ++ [Value.ref i3]).getD i Value.none) (([] ++ [Value.ref i1] ++ [Value.ref i2] ++ [Value.ref i3]).getD j Value.none)) K _ _
  rw [ep, eq]
  refine lt_key X6 (hA2.mono (Nat.le_refl _) (Nat.le_of_ble_eq_true rfl)) C6 Kp Kq fun h7 tk7 b k7 hb7 => ?_
  exact hK b _ ⟨h7, tk7, rfl, kp.trans k7⟩ (hb7.trans (below_pc rp rq))
end
end Mine
end

section
open PySem PySem.W PySem.W.X PyProof.Rows PySem.Calls
namespace Mine
variable [Inhabited Base]
/-- what a step may do: all but the code tables stands, nothing dies, the code tables stay good -/
structure Go (h h' : Heap) : Prop where
  kb : KeepB h h'
  al : ∀ b, h'.get? b = none → h.get? b = none
  tb : Tb h → Tb h'
theorem Go.refl (h : Heap) : Go h h := ⟨KeepB.refl h, fun _ e => e, fun t => t⟩
theorem Go.trans {h h' h'' : Heap} (a : Go h h') (b : Go h' h'') : Go h h'' := ⟨a.kb.trans b.kb, fun x e => a.al x (b.al x e), fun t => b.tb (a.tb t)⟩
theorem Keep.go {h h' : Heap} (k : Keep h h') : Go h h' := ⟨k.toB, al_of k, fun t => t.mono k.toC⟩
/-- one object of the call's own is written -/
theorem Go.but {g h h' : Heap} {a : Addr} {o : Obj} (x : Go g h) (hg : g.get? a = none) (ha : h.get? a = some o) (h1 : isTab o = false) (h2 : isCd o = false) (hs : ∀ b ob, b ≠ a → h.get? b = some ob → h'.get? b = some ob) : Go g h' := by
  refine ⟨fun b ob q e => hs b ob (fun z => ?_) (x.kb b ob q e), fun b e => ?_, fun t => (x.tb t).mono fun b ob q e => hs b ob (fun z => ?_) e⟩
  · subst z; rw [hg] at e; cases e
  · by_cases z : b = a
    · subst z; exact hg
    · refine x.al b ?_
      cases q : h.get? b with
      | none => rfl
      | some ob => rw [hs b ob z q] at e; cases e
  · subst z; rw [ha] at e; cases e
    rcases q with q | q
    · rw [h1] at q; cases q
    · rw [h2] at q; cases q
theorem dict_not {o : Obj} {es : Array DictEntry} {n : Nat} (e : o.data = .dict es n) : isTab o = false ∧ isCd o = false := by
  constructor
  · unfold isTab; split
    · rename_i q; rw [e] at q; cases q
    · rfl
  · unfold isCd; split
    · rename_i q; rw [e] at q; cases q
    · rfl
theorem ns_goB {h h' : Heap} {a : Addr} {m : Str → Option Value} (hn : h.Ns a m) (k : ∀ b o, isTab o = false → h.get? b = some o → h'.get? b = some o) : h'.Ns a m := by
  obtain ⟨o, es, ep, ho, hd, r⟩ := hn
  exact ⟨o, es, ep, k _ _ (dict_not hd).1 ho, hd, r⟩
section
variable {w : World} {A : Around} {s : Shared} {env : Env} {E : Value → Shared → Prop}
abbrev PR' : Program := PySem.Challenge.rw_qh0048_01.row.prog
/-- a comprehension's block over a range -/
theorem block_B {elt iter : Expr} {x : Str} {px : Pos} {scope : Scope} {cl : List (Str × Addr)} {pos : Pos} {RR : Value → Addr → Result → Shared → Prop} {s₁ : Shared} {r : Addr} {a b c : Int} {ta tb tc : Tok} {n : Nat} {R : Nat → Value → Prop} (hh : A.handled = none)
    (hcell : ∀ y ∈ scope.names, y.2 ≠ .cell) (hkind : scope.kind = .function) (hx : scope.names.lookup x = some .local)
    (hr : IsRange s₁.heap r a b c ta tb tc) (hsm : Builtin.Range.small a b c = true) (hn : Builtin.Range.rangeSize a b c = n) (hsz : n ≤ sizeLine)
    (helt : ∀ C i t s₃ m₃ E', i < n → s₁.heap.get? C = none → s₃.heap.Ns C m₃ → m₃ x = some (.int (a + i * c) t) → Go s₁.heap s₃.heap →
        wpAny (model PySem.Challenge.rw_qh0048_01.row.prog w) A (eval elt (compEnvC scope cl C env)) (fun y s₄ => R i y ∧ ∃ h' tk, s₄ = { s₃ with heap := h', toks := tk } ∧ Go s₃.heap h') E' s₃)
    (hQ : ∀ D C h' tk m' ys, s₁.heap.get? D = none → s₁.heap.get? C = none → D ≠ C → h'.Ns C m' → h'.PlainList D ys → ys.size = n → (∀ i v, ys[i]? = some v → R i v) → Go s₁.heap h' → RR (.ref D) C (.ok .next) { s₁ with heap := h', toks := tk }) :
    wpAny (model PySem.Challenge.rw_qh0048_01.row.prog w) A (pyIter (.ref r)) (fun it s₂ => wpAny (model PySem.Challenge.rw_qh0048_01.row.prog w) A (newList []) (fun acc s₃ => wpAny (model PySem.Challenge.rw_qh0048_01.row.prog w) A (newFunctionEnv scope env.globals cl [] env.qual none .none (some env)) (fun cenv s₄ =>
      codeAny (model PySem.Challenge.rw_qh0048_01.row.prog w) A (.compStart (.ListComp elt [⟨.Name x px, iter, [], 0⟩] scope pos) 0 it acc { cenv with scope := relabel scope env }) (RR acc cenv.locals) s₄) E s₃) E s₂) E s₁ := by
  refine wpAny_pyIter_range hr hsm ?_
  rw [hn]
  refine wpAny_newObj_type (wpAny_newFunctionEnv hcell (by intro y hy; simp at hy) (fun h₁ hns₁ hsb₁ => ?_) hkind)
  dsimp only at hns₁ hsb₁ ⊢
  generalize hI : s₁.heap.objs.size = I at *
  generalize hH1 : s₁.heap.push { cls := .type "range_iterator", data := .fields #[rawInt a, rawInt n, rawInt c] } = H1 at *
  have sz1 : H1.objs.size = I + 1 := by rw [← hH1, Heap.size_push, hI]
  generalize hD : H1.objs.size = D at *
  generalize hH2 : H1.push { cls := .type "list", dict := none, data := .seq ([] : List Value).toArray } = H2 at *
  have sz2 : H2.objs.size = D + 1 := by rw [← hH2, Heap.size_push, hD]
  generalize hC : H2.objs.size = C at *
  have ID : I ≠ D := by lia
  have DC : D ≠ C := by lia
  have IC : I ≠ C := by lia
  have fresh : ∀ z, I ≤ z → s₁.heap.get? z = none := fun z hz => by
    cases e : s₁.heap.get? z with
    | none => rfl
    | some o' => exact absurd (hI ▸ Heap.lt_size e : z < I) (Nat.not_lt.mpr hz)
  have fI := fresh I (Nat.le_refl _)
  have fD := fresh D (by lia)
  have fC := fresh C (by lia)
  have oI2 : H2.get? I = some { cls := .type "range_iterator", data := .fields #[rawInt a, rawInt n, rawInt c] } := by
    rw [← hH2]; refine Heap.get?_push_of_some _ ?_
    rw [← hH1, ← hI]; exact Heap.get?_push_size _ rfl
  have oD2 : H2.get? D = some { cls := .type "list", dict := none, data := .seq ([] : List Value).toArray } := by
    rw [← hH2, ← hD]; exact Heap.get?_push_size _ rfl
  have k2 : Keep s₁.heap H2 := fun b o e => by rw [← hH2]; refine Heap.get?_push_of_some _ ?_; rw [← hH1]; exact Heap.get?_push_of_some _ e
  have k2' : Keep H2 h₁ := fun b o e => hsb₁.extBut b o (by rw [← hC]; exact Nat.ne_of_lt (Heap.lt_size e)) (Heap.get?_push_of_some _ e)
  have go₁ : Go s₁.heap h₁ := Keep.go (k2.trans k2')
  have loop : ∀ s₃ : Shared, s₃ = { s₁ with heap := h₁, toks := s₁.toks + ([] : List (Str × Value)).length } →
      codeAny (model PySem.Challenge.rw_qh0048_01.row.prog w) A (.compLoop (.ListComp elt [⟨.Name x px, iter, [], 0⟩] scope pos) 0 (.ref I) (.ref D) (compEnvC scope cl C env))
        (RR (.ref D) C) s₃ := by
    rintro s₃ rfl
    refine codeAny_compLoop_tests
      (fun k s' => ∃ h' tk m' ys, s' = { s₁ with heap := h', toks := tk } ∧ IsRangeIter h' I (a + (ys.size : Int) * c) ((n : Int) - ys.size) c ∧ h'.PlainList D ys ∧ h'.Ns C m' ∧ ys.size ≤ n ∧ k = n + 1 - ys.size ∧ (∀ i v, ys[i]? = some v → R i v) ∧ Go s₁.heap h') ?_ (n + 1)
      ⟨h₁, _, _, #[], rfl, by simpa using k2' _ _ oI2, ⟨0, k2' _ _ oD2⟩, hns₁, Nat.zero_le _, rfl, fun i v e => by simp at e, go₁⟩
    rintro k s' ⟨H, tk, m', ys, rfl, hit, hacc, hn', hle, rfl, hys, go⟩
    by_cases hlt : ys.size < n
    · refine wpAny_pyNext_range_item hit (by lia) fun h₂ hit₂ hs₂ => ?_
      have go₂ : Go s₁.heap h₂ := go.but fI hit rfl rfl (fun b ob hb e => hs₂.extBut b ob hb e)
      have hn₂ : h₂.Ns C m' := hn'.sameBut hs₂ (Ne.symm IC)
      have hacc₂ : h₂.PlainList D ys := hacc.at fun o e => hs₂.extBut D o (Ne.symm ID) e
      refine wpAny_assign_Name (wpAny_storeName_local (env := compEnvC scope cl C env) (lookup_relabel_local hx) hn₂ (fun h₃ hn₃ hs₃ => ?_) (by simp [compEnvC, relabel, hkind]))
      obtain ⟨oc, es, ep, hoc, hdc, _, _⟩ := id hn₂
      have go₃ : Go s₁.heap h₃ := go₂.but fC hoc (dict_not hdc).1 (dict_not hdc).2 (fun b ob hb e => hs₃.extBut b ob hb e)
      have hit₃ := hs₃.extBut I _ IC hit₂
      have hacc₃ : h₃.PlainList D ys := hacc₂.at fun o e => hs₃.extBut D o DC e
      refine wpAny_pure ?_
      rw [if_pos rfl]
      refine wpAny_mono (helt C ys.size _ ⟨h₃, _, _, _, _⟩ _ _ hlt fC hn₃ (if_pos rfl) go₃) (fun y s₄ h₄ => ?_) fun _ _ e => e
      obtain ⟨hR, h', tk', rfl, go₄⟩ := h₄
      have kk : ∀ b ob, isTab ob = false → h₃.get? b = some ob → h'.get? b = some ob := go₄.kb
      have hn₄ := ns_goB hn₃ kk
      have hacc₄ : h'.PlainList D ys := by
        obtain ⟨nn, e⟩ := hacc₃
        exact ⟨nn, kk _ _ rfl e⟩
      have hit₄ := kk _ _ rfl hit₃
      refine wpAny_list_append_plain (hsz := by lia) hacc₄ fun h₅ hl₅ hs₅ => ?_
      obtain ⟨nn, eD⟩ := id hacc₄
      have go₅ : Go s₁.heap h₅ := (go₃.trans go₄).but fD eD rfl rfl (fun b ob hb e => hs₅.extBut b ob hb e)
      refine ⟨n + 1 - (ys.size + 1), by lia, h₅, _, _, ys.push y, rfl, ?_, hl₅, hn₄.sameBut hs₅ (Ne.symm DC), by rw [Array.size_push]; lia, by rw [Array.size_push], fun i v e => ?_, go₅⟩
      · have e5 := hs₅.extBut I _ ID hit₄
        rw [Array.size_push]
        have q1 : a + ((ys.size + 1 : Nat) : Int) * c = a + (ys.size : Int) * c + c := by push_cast; rw [Int.add_mul, Int.one_mul, Int.add_assoc]
        have q2 : (n : Int) - ((ys.size + 1 : Nat) : Int) = (n : Int) - ys.size - 1 := by push_cast; lia
        rw [q1, q2]; exact e5
      · rw [Array.getElem?_push] at e
        split at e
        · rename_i q; cases e; rw [q]; exact hR
        · exact hys i v e
    · refine wpAny_pyNext_range_end hh hit (by lia) fun h₂ hs₂ => ?_
      have hn₂ : h₂.Ns C m' := hn'.at' fun o e => hs₂ C o (Ne.symm IC) e
      have hacc₂ : h₂.PlainList D ys := hacc.at fun o e => hs₂ D o (Ne.symm ID) e
      exact hQ D C h₂ _ m' ys fD fC DC hn₂ hacc₂ (by lia) hys (go.but fI hit rfl rfl (fun b ob hb e => hs₂ b ob hb e))
  exact codeAny_compStart_list (loop _ rfl) (Walks.self (Walks.range hh I a c n) 0 _ _ _ (by simpa using k2' _ _ oI2) (loop _ rfl))
/-- as Go, but for one object -/
structure GoX (L : Addr) (h h' : Heap) : Prop where
  kb : ∀ b o, b ≠ L → isTab o = false → h.get? b = some o → h'.get? b = some o
  al : ∀ b, h'.get? b = none → h.get? b = none
  tb : Tb h → Tb h'
inductive AsgR (w : World) (A : Around) (env : Env) (elt : Expr) (x y : Str) (scope : Scope) (cl : List (Str × Addr)) (Q : Flow → Shared → Prop) (xv : Value) (s₁ : Shared) : Prop
  | mk (r : Addr) (a b c : Int) (ta tb tc : Tok) (n : Nat) (R : Nat → Value → Prop) (m : Str → Option Value) (e : xv = .ref r) (hr : IsRange s₁.heap r a b c ta tb tc) (hsm : Builtin.Range.small a b c = true) (hn : Builtin.Range.rangeSize a b c = n) (hsz : n ≤ sizeLine)
      (hL : s₁.heap.Ns env.locals m)
      (helt : ∀ C i t s₃ m₃ E', i < n → s₁.heap.get? C = none → s₃.heap.Ns C m₃ → m₃ x = some (.int (a + i * c) t) → Go s₁.heap s₃.heap →
        wpAny (model PySem.Challenge.rw_qh0048_01.row.prog w) A (eval elt (compEnvC scope cl C env)) (fun y s₄ => R i y ∧ ∃ h' tk, s₄ = { s₃ with heap := h', toks := tk } ∧ Go s₃.heap h') E' s₃)
      (hQ : ∀ D h' tk ys, s₁.heap.get? D = none → h'.PlainList D ys → ys.size = n → (∀ i v, ys[i]? = some v → R i v) → GoX env.locals s₁.heap h' → h'.Ns env.locals (fun z => if z = y then some (.ref D) else m z) → Q .next { s₁ with heap := h', toks := tk }) : AsgR w A env elt x y scope cl Q xv s₁
/-- a list made of a walk, put under a name -/
theorem used {M : Model} {elt : Expr} {gs : List Comprehension} {y : Str} {py : Pos} {scope : Scope} {pos spos : Pos} {P : Flow → Shared → Prop} (hsw : swapsWith (.ListComp elt gs scope pos) (some (.Name y py)) spos.line env = pure true)
    (h : wpAny M A (comprehension (.ListComp elt gs scope pos) scope env (firstIterPos gs pos) (newList []) (firstAsync gs) (firstIter gs env) (some (assign (.Name y py) env))) (fun _ => P .next) E s) :
    wpAny M A (exec (.Assign [.Name y py] (.ListComp elt gs scope pos) spos) env) P E s := by
  have made : wpAny M A (evalThenUse (.ListComp elt gs scope pos) env (assign (.Name y py) env)) (fun _ => P .next) E s := by
    refine wpAny_bind (wpAny_mono h (fun _ _ q => ?_) fun _ _ => id)
    exact wpAny_pure q
  rw [exec_Assign_Name_used _ _ _ _ hsw]
  refine wpAny_bind (wpAny_standAt (wpAny_bind (wpAny_mono made (fun _ _ q => ?_) fun _ _ => id)))
  exact wpAny_pure q
theorem assign_range_B {elt iter : Expr} {x y : Str} {px py : Pos} {scope : Scope} {cl : List (Str × Addr)} {pos spos : Pos} {Q : Flow → Shared → Prop} (hh : A.handled = none)
    (hsw : swapsWith (.ListComp elt [⟨.Name x px, iter, [], 0⟩] scope pos) (some (.Name y py)) spos.line env = pure true)
    (hclos : closureFor scope env = pure cl) (hcell : ∀ y ∈ scope.names, y.2 ≠ .cell) (hkind : scope.kind = .function)
    (hnames : ∀ y ∈ scope.names, y.2 = .local → scope.names.lookup y.1 = some .local) (hx : scope.names.lookup x = some .local)
    (hy : env.kindOf y = some .local) (hp : (env.scope.kind == .class || (env.scope.kind == .module && env.locals != env.globals)) = false)
    (h : wpAny (model PySem.Challenge.rw_qh0048_01.row.prog w) A (eval iter env) (AsgR w A env elt x y scope cl Q) E s)
    (hs : ∀ x, foldedSetIterable iter env x = pure x) :
    wpAny (model PySem.Challenge.rw_qh0048_01.row.prog w) A (exec (.Assign [.Name y py] (.ListComp elt [⟨.Name x px, iter, [], 0⟩] scope pos) spos) env) Q E s := by
  refine used hsw (wpAny_comprehension_free (use := some (assign (.Name y py) env)) (Q := fun _ => Q .next) rfl hs hclos hkind hnames (wpAny_mono h (fun xv s₁ h₁ => ?_) fun _ _ => id))
  obtain ⟨r, a, b, c, ta, tb, tc, n, R, m, rfl, hr, hsm, hn, hsz, hL, helt, hQ⟩ := h₁
  refine block_B (RR := fun acc C => compPost (model PySem.Challenge.rw_qh0048_01.row.prog w) A E (some (assign (.Name y py) env)) (fun _ s' => Q .next s') acc C) hh hcell hkind hx hr hsm hn hsz helt ?_
  intro D C h₂ tk m' ys fD fC DC hn₂ hacc₂ hsz' hys go₂
  have hLC : env.locals ≠ C := by rintro rfl; obtain ⟨o, _, _, ho, _⟩ := hL; rw [fC] at ho; cases ho
  have hLD : env.locals ≠ D := by rintro rfl; obtain ⟨o, _, _, ho, _⟩ := hL; rw [fD] at ho; cases ho
  have hL₂ := ns_goB hL go₂.kb
  show wpAny _ A (assign (.Name y py) env (.ref D)) _ _ _
  refine wpAny_assign_Name (wpAny_storeName_local hy hL₂ (fun h₃ hn₃ hs₃ => ?_) hp)
  refine ⟨m', hn₂.sameBut hs₃ (Ne.symm hLC), fun h₄ hs₄ => ?_⟩
  obtain ⟨oL, _, _, hoL, hdL, _, _⟩ := id hL₂
  obtain ⟨oc, es, ep, hoc, hdc, _, _⟩ := id hn₂
  have hoc₃ : h₃.get? C = some oc := hs₃.extBut C oc (Ne.symm hLC) hoc
  refine hQ D h₄ _ ys fD ((hacc₂.at fun o e => hs₃.extBut D o (Ne.symm hLD) e).at fun o e => hs₄.extBut D o DC e) hsz' hys ⟨fun b ob nb q e => ?_, fun b e => ?_, fun t => ?_⟩ (hn₃.sameBut hs₄ hLC)
  · exact hs₄.extBut b ob (fun z => by subst z; rw [fC] at e; cases e) (hs₃.extBut b ob nb (go₂.kb b ob q e))
  · by_cases z : b = C
    · subst z; exact fC
    · refine go₂.al b ?_
      by_cases z2 : b = env.locals
      · subst z2
        obtain ⟨oL3, _, _, hoL3, _⟩ := hn₃
        rw [hs₄.extBut _ oL3 hLC hoL3] at e; cases e
      · rw [← hs₃.2 b z2, ← hs₄.2 b z]; exact e
  · have t2 := go₂.tb t
    refine t2.mono fun b ob q e => hs₄.extBut b ob (fun z => ?_) (hs₃.extBut b ob (fun z => ?_) e)
    · subst z; rw [hoc] at e; cases e
      rcases q with q | q
      · rw [(dict_not hdc).1] at q; cases q
      · rw [(dict_not hdc).2] at q; cases q
    · subst z; rw [hoL] at e; cases e
      rcases q with q | q
      · rw [(dict_not hdL).1] at q; cases q
      · rw [(dict_not hdL).2] at q; cases q
end
end Mine
end

section
open PySem PySem.W PySem.W.X PyProof.Rows PySem.Calls
namespace Mine
variable [Inhabited Base]
/-- an object that is no table and no code -/
def Pl (h : Heap) (a : Addr) : Prop := ∃ o, h.get? a = some o ∧ isTab o = false ∧ isCd o = false
theorem Pl.of {h : Heap} {a : Addr} {o : Obj} (e : h.get? a = some o) (h1 : isTab o = false := by rfl) (h2 : isCd o = false := by rfl) : Pl h a := ⟨o, e, h1, h2⟩
theorem Pl.ns {h : Heap} {a : Addr} {m : Str → Option Value} (n : h.Ns a m) : Pl h a := let ⟨o, _, _, e, d, _⟩ := n; ⟨o, e, (dict_not d).1, (dict_not d).2⟩
/-- places of the call's own are written -/
theorem Go.iter {g h h' : Heap} {ws : List Addr} (x : Go g h) (hg : ∀ a ∈ ws, g.get? a = none) (hp : ∀ a ∈ ws, Pl h a) (rel : ∀ b o, b ∉ ws → h.get? b = some o → h'.get? b = some o) : Go g h' := by
  refine ⟨fun b ob q e => rel b ob (fun z => ?_) (x.kb b ob q e), fun b e => ?_, fun t => (x.tb t).mono fun b ob q e => rel b ob (fun z => ?_) e⟩
  · rw [hg b z] at e; cases e
  · by_cases z : b ∈ ws
    · exact hg b z
    · refine x.al b ?_
      cases q : h.get? b with
      | none => rfl
      | some ob => rw [rel b ob z q] at e; cases e
  · obtain ⟨o, e2, h1, h2⟩ := hp b z
    rw [e2] at e; cases e
    rcases q with q | q
    · rw [h1] at q; cases q
    · rw [h2] at q; cases q
section
variable {w : World} {A : Around} {s : Shared} {env : Env} {E : Value → Shared → Prop}
/-- a for over a walk, by a word of the heap and the names -/
theorem for_walk {R : Result → Shared → Prop} {x : Str} {px : Pos} {body : List Stmt} {I : Addr} {fp wr : List Addr} {n : Nat} {P : Nat → Value → Prop} {St : Nat → Heap → Prop} {m₀ : Str → Option Value}
    (W : Walks PySem.Challenge.rw_qh0048_01.row.prog w A I fp wr n P St) (hx : env.kindOf x = some .local) (hp : (env.scope.kind == .class || (env.scope.kind == .module && env.locals != env.globals)) = false) (hLf : env.locals ∉ fp)
    (J : Nat → Heap → (Str → Option Value) → Prop) (hst : St 0 s.heap) (hn : s.heap.Ns env.locals m₀) (h0 : J 0 s.heap m₀)
    (turn : ∀ i v h₀ h tk m, i < n → P i v → J i h₀ m → h₀.Ns env.locals m → (∀ b o, b ∉ wr → b ≠ env.locals → h₀.get? b = some o → h.get? b = some o) → St (i + 1) h → h.Ns env.locals (fun y => if y = x then some v else m y) →
      wpAny (model PySem.Challenge.rw_qh0048_01.row.prog w) A (execs body env) (fun f s' => (f = .next ∨ f = .cont) ∧ ∃ h' tk' m', s' = { s with heap := h', toks := tk' } ∧ (∀ b ∈ fp, ∀ o, h.get? b = some o → h'.get? b = some o) ∧ h'.Ns env.locals m' ∧ J (i + 1) h' m')
        (fun _ _ => False) { s with heap := h, toks := tk })
    (done : ∀ h₀ h tk m, J n h₀ m → (∀ b o, b ∉ wr → h₀.get? b = some o → h.get? b = some o) → h.Ns env.locals m → R (.ok .next) { s with heap := h, toks := tk }) :
    codeAny (model PySem.Challenge.rw_qh0048_01.row.prog w) A (.forLoop (.Name x px) (.ref I) body [] env) R s := by
  have hLw : env.locals ∉ wr := fun q => hLf (W.sub _ q)
  refine codeAny_forLoop (fun k s' => ∃ h tk m i, s' = { s with heap := h, toks := tk } ∧ St i h ∧ h.Ns env.locals m ∧ J i h m ∧ i ≤ n ∧ k = n - i) ?_ n ⟨s.heap, s.toks, m₀, 0, rfl, hst, hn, h0, Nat.zero_le _, rfl⟩
  rintro k s' ⟨h, tk, m, i, rfl, st, ns, j, hi, rfl⟩
  by_cases hlt : i < n
  · refine W.item i _ _ _ hlt st fun v h₁ tk₁ hv st₁ hk₁ => ?_
    have ns₁ : h₁.Ns env.locals m := ns.at' fun o e => hk₁ _ o hLw e
    refine wpAny_assign_Name (wpAny_storeName_local hx ns₁ (fun h₂ ns₂ hs₂ => ?_) hp)
    have st₂ : St (i + 1) h₂ := W.frame _ _ _ st₁ fun b hb o e => hs₂.extBut b o (fun z => hLf (z ▸ hb)) e
    refine wpAny_mono (turn i v h h₂ _ m hlt hv j ns (fun b o hb hb2 e => hs₂.extBut b o hb2 (hk₁ b o hb e)) st₂ ns₂) (fun f s' q => ?_) fun _ _ q => q.elim
    obtain ⟨hf, h', tk', m', rfl, kf, ns', j'⟩ := q
    have st' : St (i + 1) h' := W.frame _ _ _ st₂ kf
    have fin : ∃ k, k < n - i ∧ ∃ h tk m i, ({ s with heap := h', toks := tk' } : Shared) = { s with heap := h, toks := tk } ∧ St i h ∧ h.Ns env.locals m ∧ J i h m ∧ i ≤ n ∧ k = n - i :=
      ⟨n - (i + 1), by omega, h', tk', m', i + 1, rfl, st', ns', j', hlt, rfl⟩
    rcases hf with rfl | rfl
    · exact fin
    · exact fin
  · have e : i = n := by omega
    subst e
    refine W.done _ _ _ st fun h₁ tk₁ hk₁ => ?_
    exact wpAny_execs_nil (done h h₁ tk₁ m j hk₁ (ns.at' fun o e => hk₁ _ o hLw e))
end
end Mine
end

section
open PySem PySem.W PySem.W.X PyProof.Rows PySem.Calls
namespace Mine
variable [Inhabited Base]
/-- a row of pieces tells these numbers -/
def IsPcs (items : List Value) (xs : List Int) : Prop := items.length = xs.length ∧ ∀ (j : Nat) (x : Int), xs[j]? = some x → ∃ t, items[j]? = some (Value.bytes (pc x) t)
def stepL (xs : List Int) : List Int := xs.take 1 ++ (List.range (xs.length - 2)).map (fun i => med (xs.getD i 0) (xs.getD (i + 1) 0) (xs.getD (i + 2) 0)) ++ xs.drop (xs.length - 1)
theorem cell_not {o : Obj} {v : Option Value} (e : o.data = .cell v) : isTab o = false := by
  unfold isTab; split
  · rename_i q; rw [e] at q; cases q
  · rfl
theorem cell_kb {h h' : Heap} {c : Addr} {v : Option Value} (x : h.IsCell c v) (k : KeepB h h') : h'.IsCell c v := by
  obtain ⟨o, ho, hd⟩ := x
  exact ⟨o, k _ _ (cell_not hd) ho, hd⟩
theorem list_kb {h h' : Heap} {c : Addr} {items : Array Value} (x : h.IsList c items) (k : KeepB h h') : h'.IsList c items := by
  obtain ⟨o, ho, hc, r⟩ := x
  exact ⟨o, k _ _ (by unfold isTab; rw [hc]) ho, hc, r⟩
theorem pcs_at {items : List Value} {xs : List Int} (h : IsPcs items xs) {i : Nat} (hi : i < xs.length) : ∃ t, items[i]? = some (.bytes (pc (xs.getD i 0)) t) := by
  refine h.2 i _ ?_
  rw [List.getD_eq_getElem?_getD, List.getElem?_eq_getElem hi]; rfl
theorem getD_mem {xs : List Int} {i : Nat} (hi : i < xs.length) : xs.getD i 0 ∈ xs := by
  rw [List.getD_eq_getElem?_getD, List.getElem?_eq_getElem hi]; exact List.getElem_mem hi
theorem take3 {l : List Value} {i : Nat} {a b c : Value} (ha : l[i]? = some a) (hb : l[i + 1]? = some b) (hc : l[i + 2]? = some c) : (l.drop i).take 3 = [a, b, c] := by
  refine List.ext_getElem? fun n => ?_
  rw [List.getElem?_take]
  rcases (by lia : n = 0 ∨ n = 1 ∨ n = 2 ∨ 3 ≤ n) with rfl | rfl | rfl | h
  · simpa using ha
  · simpa using hb
  · simpa using hc
  · rw [if_neg (by lia)]; exact (List.getElem?_eq_none (by simpa using h)).symm
theorem IsPcs.append {a b : List Value} {xs ys : List Int} (h : IsPcs a xs) (k : IsPcs b ys) : IsPcs (a ++ b) (xs ++ ys) := by
  refine ⟨by rw [List.length_append, List.length_append, h.1, k.1], fun j x e => ?_⟩
  by_cases q : j < xs.length
  · rw [List.getElem?_append_left q] at e
    rw [List.getElem?_append_left (by rw [h.1]; exact q)]
    exact h.2 j x e
  · rw [List.getElem?_append_right (by lia)] at e
    rw [List.getElem?_append_right (by rw [h.1]; lia), h.1]
    exact k.2 _ x e
theorem IsPcs.take {a : List Value} {xs : List Int} (h : IsPcs a xs) (n : Nat) : IsPcs (a.take n) (xs.take n) := by
  refine ⟨by rw [List.length_take, List.length_take, h.1], fun j x e => ?_⟩
  rw [List.getElem?_take] at e ⊢
  split at e
  · rename_i q; rw [if_pos q]; exact h.2 j x e
  · cases e
theorem IsPcs.drop {a : List Value} {xs : List Int} (h : IsPcs a xs) (n : Nat) : IsPcs (a.drop n) (xs.drop n) := by
  refine ⟨by rw [List.length_drop, List.length_drop, h.1], fun j x e => ?_⟩
  rw [List.getElem?_drop] at e ⊢
  exact h.2 _ x e
theorem pick_first {items : Array Value} (h : 1 ≤ items.size) : slicePick items none (some 1) none = (items.toList.take 1).toArray := by
  have e : slicePick items none (some 1) none = slicePick items (some ((0 : Nat) : Int)) (some ((1 : Nat) : Int)) none := by
    unfold slicePick sliceBounds; simp
    rw [show max (0 : Int) (min 0 (items.size : Int)) = 0 by lia]
  rw [e, slicePick_run items 0 1 h (by lia)]; simp
theorem pick_last {items : Array Value} (h : 1 ≤ items.size) : slicePick items (some (-1)) none none = (items.toList.drop (items.size - 1)).toArray := by
  have e : slicePick items (some (-1)) none none = slicePick items (some ((items.size - 1 : Nat) : Int)) (some ((items.size : Nat) : Int)) none := by
    have e1 : sliceBounds (some (-1)) none none items.size = sliceBounds (some ((items.size - 1 : Nat) : Int)) (some ((items.size : Nat) : Int)) none items.size := by
      unfold sliceBounds
      simp only [Option.getD_none, show (1 : Int) > 0 by decide, if_true]
      have q1 : ((-1 : Int) < 0) := by decide
      have q2 : ¬ (((items.size - 1 : Nat) : Int) < 0) := by lia
      have q3 : ¬ (((items.size : Nat) : Int) < 0) := by lia
      rw [if_pos q1, if_neg q2, if_neg q3]
      refine Prod.ext ?_ (Prod.ext ?_ rfl)
      · dsimp only; lia
      · dsimp only; lia
    unfold slicePick; rw [e1]
  rw [e, slicePick_run items (items.size - 1) items.size (Nat.le_refl _) (by lia), List.take_of_length_le (by rw [List.length_drop, Array.length_toList]; lia)]
section
variable {w : World} {A : Around} {E Q : Value → Shared → Prop} {s : Shared}
inductive CutL (Q : Value → Shared → Prop) (o vl vu : Value) (s₃ : Shared) : Prop
  | mk (l : Addr) (items : Array Value) (lo hi : Option Int) (e : o = .ref l) (hl : s₃.heap.IsList l items) (hz : items.size ≤ sizeLine) (pl : IsPart vl lo) (pu : IsPart vu hi)
      (hQ : ∀ D h', Keep s₃.heap h' → s₃.heap.get? D = none → h'.PlainList D (slicePick items lo hi none) → Q (.ref D) { s₃ with heap := h' }) : CutL Q o vl vu s₃
theorem slice_rule {env : Env} {value : Expr} {lower upper : Option Expr} {p pos : Pos}
    (h : wpAny (model PySem.Challenge.rw_qh0048_01.row.prog w) A (eval value env) (fun o s₁ => wpAny (model PySem.Challenge.rw_qh0048_01.row.prog w) A (evalPart lower env) (fun vl s₂ => wpAny (model PySem.Challenge.rw_qh0048_01.row.prog w) A (evalPart upper env) (CutL Q o vl) E s₂) E s₁) E s)
    (ht : ∀ o r, letTemporaryGo value o r = pure () := by intro _ _; rfl) :
    wpAny (model PySem.Challenge.rw_qh0048_01.row.prog w) A (eval (.Subscript value (.Slice lower upper none p) pos) env) Q E s := by
  refine wpAny_Subscript_list_slice (mono3 (P := CutL Q) ?_ h) ht
  rintro o vl vu s₃ ⟨l, items, lo, hi, e1, e2, e3, e4, e5, hQ⟩
  refine ⟨l, items, lo, hi, e1, e2, e3, e4, e5, hQ _ _ (fun b o e => Heap.get?_push_of_some _ (Heap.get?_push_of_some _ e)) ?_ ⟨0, ?_⟩⟩
  · cases e : s₃.heap.get? (s₃.heap.objs.size + 1) with
    | none => rfl
    | some o => exact absurd (Heap.lt_size e) (Nat.not_lt.mpr (Nat.le_succ _))
  · rw [← Heap.size_push s₃.heap]; exact Heap.get?_push_size _ rfl
theorem add_rule {l r : Addr} {i1 i2 : Array Value} (hl : s.heap.PlainList l i1) (hr : s.heap.PlainList r i2) (hz : i1.size + i2.size ≤ sizeLine) (h : ∀ D h', Keep s.heap h' → s.heap.get? D = none → h'.PlainList D (i1 ++ i2) → Q (.ref D) { s with heap := h' }) :
    wpAny (model PySem.Challenge.rw_qh0048_01.row.prog w) A (binaryOp .Add (.ref l) (.ref r)) Q E s := by
  obtain ⟨n1, hl⟩ := hl
  obtain ⟨n2, hr⟩ := hr
  exact PySem.P.add_list hl hr (h _ _ (fun b o e => Heap.get?_push_of_some _ e) (get_size_none _) ⟨0, Heap.get?_push_size _ rfl⟩) hz
theorem step_spec {r : Addr} {k : Int} {t : Tok} {items : Array Value} {xs : List Int} (X : CxB w s.heap) (tb : Tb s.heap) (hA : OkA A 620 270) (hr : s.heap.PlainList r items) (hx : IsPcs items.toList xs) (hin : ∀ x ∈ xs, InR x) (h3 : 3 ≤ xs.length) (h10 : xs.length ≤ 100)
    (hQ : ∀ D h' tk ys, Go s.heap h' → s.heap.get? D = none → h'.PlainList D ys → IsPcs ys.toList (stepL xs) → Q (.ref D) { s with heap := h', toks := tk }) :
    wpAny (model PySem.Challenge.rw_qh0048_01.row.prog w) A (call (.ref 156) [.ref r, .int k t]) Q E s := by
  refine wpAny_call (call_cells_ret (Nat.lt_of_le_of_lt hA.depth (Nat.le_of_ble_eq_true rfl)) (X.cx.k 156 _ rfl) rfl X.cx.lim (codeRec_of X.cx.k (by kernel_rfl)) (binds := [(Str.ofString "row", .ref r), (Str.ofString "k", .int k t)]) (by kernel_rfl) ?hk fun h₁ tk F Cl => ?_)
  case hk =>
    intro x hx
    rcases List.mem_cons.mp hx with rfl | hx
    · exact .inr ⟨rfl, rfl⟩
    · rw [List.mem_singleton.mp hx]; exact .inl rfl
  have k₁ : Keep s.heap h₁ := F.keep
  have fL : s.heap.get? s.heap.objs.size = none := get_size_none _
  have hns := F.ns
  have hcell : h₁.IsCell (s.heap.objs.size + 1) (some (.ref r)) := Cl.cell (Str.ofString "row") _ rfl
  have fc : s.heap.get? (s.heap.objs.size + 1) = none := by
    cases e : s.heap.get? (s.heap.objs.size + 1) with
    | none => rfl
    | some o => exact absurd (Heap.lt_size e) (Nat.not_lt.mpr (Nat.le_succ _))
  clear F Cl
  have X₁ : CxB w h₁ := X.keeps k₁.toB
  have hr₁ : h₁.IsList r items := (hr.at fun o e => k₁ _ _ e).isList
  have hsz : items.size = xs.length := by rw [← hx.1]; simp
  refine wpAny_execs_cons ?_
  refine assign_range_B hA.handled (by kernel_rfl) (cl := [(Str.ofString "row", s.heap.objs.size + 1)]) (by kernel_rfl) (by decide) rfl (by decide) rfl rfl rfl ?_ (fun _ => rfl)
  refine wpAny_Call_NameR (Mine.nm_bi X₁.cx (v := .type "range") (by kernel_rfl) (by kernel_rfl) (by decide) ?_)
  refine PyProof.Rows.callWith_type1 ?_
  refine spliced_more (wpAny_Constant_int ?_)
  refine spliced_more (wpAny_BinOp (wpAny_Call_NameR (Mine.nm_bi X₁.cx (v := .builtin "len") (by kernel_rfl) (by kernel_rfl) (by decide) ?_)))
  refine PyProof.Rows.callWith_builtin1 ?_
  refine spliced_more (Mine.nm_cell (c := s.heap.objs.size + 1) rfl hcell ?_)
  refine spliced_none ?_
  refine len_list hr₁ (by rw [hsz]; lia) ?_
  refine wpAny_Constant_int ?_
  refine PyProof.Rows.sub_int ?_
  refine spliced_none ?_
  refine call_range_2 ?_
  have n2 : xs.length - 2 + 2 = xs.length := by lia
  have hsz' : (items.size : Int) = xs.length := by rw [hsz]
  refine ⟨_, 1, (items.size : Int) - 1, 1, _, _, _, xs.length - 2, fun i y => ∃ t, y = .bytes (pc (med (xs.getD i 0) (xs.getD (i + 1) 0) (xs.getD (i + 2) 0))) t, _, rfl, IsRange.new .., small_one (by lia) (by lia) (by lia) (by lia), ?_, ?_, hns.push _, ?_, ?_⟩
  · rw [rangeSize_one]; split <;> lia
  · rw [sizeLine_eq]; lia
  · intro C i t' s₃ m₃ E' hi fC hn₃ hm₃ go₃
    have X₃ : CxB w s₃.heap := (X₁.keeps (Keep.toB fun b o e => Heap.get?_push_of_some _ e)).keeps go₃.kb
    have kp : ∀ o : Obj, Keep h₁ (h₁.push o) := fun o' b o e => Heap.get?_push_of_some _ e
    have hcell₃ := cell_kb (hcell.keeps (kp _)) go₃.kb
    have hr₃ := list_kb (list_kb hr₁ (kp _).toB) go₃.kb
    have tb₃ : Tb s₃.heap := go₃.tb ((tb.mono k₁.toC).mono (kp _).toC)
    refine PyProof.Rows.Subscript_ (wpAny_Call_Name_kw (Mine.nm_bi X₃.cx (v := .builtin "sorted") (by kernel_rfl) (by kernel_rfl) (by decide) ?_))
    refine PyProof.Rows.callWith_kw ?_
    refine spliced_more (slice_rule (Mine.nm_cell (c := s.heap.objs.size + 1) rfl hcell₃ ?_))
    refine evalPart_some_step (wpAny_BinOp (Mine.nm_loc hn₃ hm₃ (wpAny_Constant_int (PyProof.Rows.sub_int ?_))))
    refine evalPart_some_step (wpAny_BinOp (Mine.nm_loc hn₃ hm₃ (wpAny_Constant_int (PyProof.Rows.add_int ?_))))
    refine ⟨r, items, _, _, rfl, hr₃, by rw [hsz, sizeLine_eq]; lia, .int _ _, .int _ _, ?_⟩
    have hpick : slicePick items (some (1 + (i : Int) * 1 - 1)) (some (1 + (i : Int) * 1 + 2)) none = ((items.toList.drop i).take 3).toArray := by
      rw [show (1 + (i : Int) * 1 - 1) = ((i : Nat) : Int) by lia, show (1 + (i : Int) * 1 + 2) = ((i + 3 : Nat) : Int) by lia, slicePick_run items i (i + 3) (by lia) (by lia)]
      congr 2; lia
    obtain ⟨ta, ea⟩ := pcs_at hx (i := i) (by lia)
    obtain ⟨tb', eb⟩ := pcs_at hx (i := i + 1) (by lia)
    obtain ⟨tc, ec⟩ := pcs_at hx (i := i + 2) (by lia)
    rw [hpick, take3 ea eb ec]
    intro l h₄ k₄ fl hl₄
    refine norm_sa (h := h₄) (g := s₃.gens) (d := s₃.drawn) (o := s₃.os) ?_
    intro tkn
    have X₄ : CxB w h₄ := X₃.keeps (Keep.toB k₄)
    have tb₄ : Tb h₄ := tb₃.mono (Keep.toC k₄)
    refine spliced_none ?_
    refine wpAny_evalAll_cons ?_
    refine e_bind ?_
    refine call_fn (s := ⟨h₄, _, _, _, _⟩) (a := 116) X₄.cx (by kernel_rfl) (by kernel_rfl) ?_ (by kernel_rfl) (by kernel_rfl) (by kernel_rfl) (by kernel_rfl)
    refine spliced_more (Mine.nm_glob X₄.cx (v := .ref 151) (by kernel_rfl) ?_)
    refine spliced_none ⟨X₄.cx.k, ?_⟩
    refine e_call ?_
    refine wpAny_mono (ck X₄ tb₄ (Nat.lt_of_le_of_lt (Nat.succ_le_succ hA.depth) (Nat.le_of_ble_eq_true rfl))) ?_ (fun _ _ q => q)
    rintro _ _ ⟨C', h₅, tk₅, rfl, rfl, kb₅, al₅, tb₅, fC', K₅, L', x', t'', fL', oL'⟩
    refine e_pure ?_
    refine e_at ?_
    refine e_pure ?_
    refine wpAny_evalAll_nil ?_
    have ns₅ : h₅.Ns L' (fun y => nsFind #[⟨x', .str nmK t'', .ref C'⟩] y) := ⟨_, _, _, oL', rfl, fun e he => (by
      have := List.mem_singleton.mp (Array.mem_def.mp he); subst this; exact ⟨_, _, rfl⟩), fun _ => rfl⟩
    have hl₅ : h₅.IsList l _ := list_kb hl₄.isList kb₅
    refine sort3 (hb := h₄) (C := C') (L := L') X₄ ⟨kb₅, al₅, K₅, ns₅, fun _ _ _ e => e⟩ (v := .ref C') (by kernel_rfl) fL' (hA.deeper.mono (Nat.le_of_ble_eq_true rfl) (Nat.le_of_ble_eq_true rfl)) (hin _ (getD_mem (by lia))) (hin _ (getD_mem (by lia))) (hin _ (getD_mem (by lia))) hl₅ ?_
    intro D h₆ tk₆ nn x₆ y₆ t₆ kb₆ al₆ ko₆ fD oD
    refine wpAny_Constant_int ?_
    refine PyProof.Rows.item_listR (items := #[x₆, .bytes (pc (med (xs.getD i 0) (xs.getD (i + 1) 0) (xs.getD (i + 2) 0))) t₆, y₆]) ⟨_, oD, rfl, _, rfl⟩ (by decide) (by decide) (x := .bytes (pc (med (xs.getD i 0) (xs.getD (i + 1) 0) (xs.getD (i + 2) 0))) t₆) rfl ?_
    exact ⟨⟨t₆, rfl⟩, h₆, _, rfl, ⟨(Keep.toB k₄).trans kb₆, fun b e => al_of k₄ b (al₆ b e), fun _ => tb₅.mono ko₆.toC⟩⟩
  · intro D h' tk' ys fD hD hys hR gx ns'
    refine norm_sa (h := h') (g := s.gens) (d := s.drawn) (o := s.os) ?_
    intro tkn
    have kp : ∀ (h : Heap) (o : Obj), Keep h (h.push o) := fun h o' b o e => Heap.get?_push_of_some _ e
    obtain ⟨oc, hoc, hdc⟩ := hcell
    have nLc : s.heap.objs.size + 1 ≠ s.heap.objs.size := Nat.succ_ne_self _
    have hcell' : h'.IsCell (s.heap.objs.size + 1) (some (.ref r)) := ⟨oc, gx.kb _ _ nLc (cell_not hdc) (kp _ _ _ _ hoc), hdc⟩
    obtain ⟨nr, hor⟩ := id hr
    have nLr : r ≠ s.heap.objs.size := fun z => by rw [z, fL] at hor; cases hor
    have hr' : h'.PlainList r items := ⟨nr, gx.kb _ _ nLr rfl (kp _ _ _ _ (k₁ _ _ hor))⟩
    refine wpAny_execs_cons ?_
    rw [arm_exec_Return]
    refine e_at ?_
    refine e_bindp () rfl ?_
    refine e_bind ?_
    refine wpAny_BinOp (wpAny_BinOp ?_)
    refine slice_rule (Mine.nm_cell (c := s.heap.objs.size + 1) rfl hcell' ?_)
    refine wpAny_pure ?_
    refine evalPart_some_step (wpAny_Constant_int ?_)
    refine ⟨r, items, _, _, rfl, hr'.isList, by rw [hsz, sizeLine_eq]; lia, .none, .int _ _, ?_⟩
    intro D1 g1 c1 f1 p1
    refine norm_sa (h := g1) (g := s.gens) (d := s.drawn) (o := s.os) ?_
    intro tkn
    replace p1 : g1.PlainList D1 (items.toList.take 1).toArray := (pick_first (items := items) (by lia)) ▸ p1
    refine Mine.nm_loc (m := fun z => if z = (Str.ofString "inner") then some (.ref D) else bindL (envOfC (Str.ofString "_law_step") _ s.heap.objs.size 156 (Value.ref 155)).kindOf [(Str.ofString "row", Value.ref r), (Str.ofString "k", Value.int k t)] (fun _ => none) z) (ns'.keeps c1) (if_pos rfl) ?_
    refine add_rule p1 (hD.at fun o e => c1 _ _ e) (by rw [hys, sizeLine_eq]; simp; lia) ?_
    intro D2 g2 c2 f2 p2
    refine norm_sa (h := g2) (g := s.gens) (d := s.drawn) (o := s.os) ?_
    intro tkn
    refine slice_rule (Mine.nm_cell (c := s.heap.objs.size + 1) rfl ((hcell'.keeps c1).keeps c2) ?_)
    refine evalPart_some_step (wpAny_UnaryOp (wpAny_Constant_int (PySem.P.neg_int ?_)))
    refine wpAny_pure ?_
    refine ⟨r, items, _, _, rfl, (hr'.at fun o e => c2 _ _ (c1 _ _ e)).isList, by rw [hsz, sizeLine_eq]; lia, .int _ _, .none, ?_⟩
    intro D3 g3 c3 f3 p3
    refine norm_sa (h := g3) (g := s.gens) (d := s.drawn) (o := s.os) ?_
    intro tkn
    replace p3 : g3.PlainList D3 (items.toList.drop (items.size - 1)).toArray := (pick_last (items := items) (by lia)) ▸ p3
    refine add_rule (p2.at fun o e => c3 _ _ e) p3 (by rw [Array.size_append, hys, sizeLine_eq]; simp; lia) ?_
    intro D4 g4 c4 f4 p4
    refine e_pure ?_
    have kk : Keep h' g4 := ((c1.trans c2).trans c3).trans c4
    refine hQ D4 g4 _ _ ⟨fun b o q e => kk b o (gx.kb b o (fun z => by subst z; cases (fL.symm.trans e)) q (kp _ _ _ _ (k₁ b o e))), fun b e => ?_, fun tb' => (gx.tb ((tb'.mono k₁.toC).mono (kp _ _).toC)).mono kk.toC⟩ ?_ p4 ?_
    · exact al_of k₁ b (al_of (kp _ _) b (gx.al b (al_of kk b e)))
    · exact al_of k₁ _ (al_of (kp _ _) _ (gx.al _ (al_of ((c1.trans c2).trans c3) _ f4)))
    · have py : IsPcs ys.toList ((List.range (xs.length - 2)).map fun i => med (xs.getD i 0) (xs.getD (i + 1) 0) (xs.getD (i + 2) 0)) := by
        refine ⟨by simp [hys], fun j x e => ?_⟩
        rw [List.getElem?_map] at e
        have hj : j < xs.length - 2 := by
          by_cases q : j < xs.length - 2
          · exact q
          · rw [List.getElem?_eq_none (by simpa using q)] at e; cases e
        rw [List.getElem?_range hj] at e
        cases e
        have hj' : j < ys.size := by rw [hys]; exact hj
        obtain ⟨t', e'⟩ := hR j _ (Array.getElem?_eq_getElem hj')
        exact ⟨t', by rw [Array.getElem?_toList, Array.getElem?_eq_getElem hj', e']⟩
      rw [Array.toList_append, Array.toList_append, hsz]
      exact ((hx.take 1).append py).append (hx.drop _)
end
end Mine
end

section

end

section
open PySem PySem.W PySem.W.X PyProof.Rows PySem.Calls
namespace Mine
variable [Inhabited Base]
theorem call_iter {prog : Program} {w : World} {A : Around} {E : Value → Shared → Prop} {s : Shared} {Q : Value → Shared → Prop} {x : Value}
    (hQ : wpAny (model prog w) A.in1 (pyIter x) Q E s) :
    wpAny (model prog w) A (call (.builtin "iter") [x]) Q E s := by
  refine call_function_entry (id := "iter") (b := Builtin.«iter») (by decide +kernel) (by decide +kernel) kdk_entry_iter (by unfold argsOk; kernel_rfl) ?_
  unfold Builtin.«iter»
  refine wpAny_bind (m := someArgs "iter" 1 2 _) (wpAny_pure ?_)
  exact wpAny_bind (wpAny_mono hQ (fun v s' q => wpAny_pure ⟨_, rfl, q⟩) fun _ _ e => e)
end Mine
end

section
open PySem PySem.W PySem.W.X PyProof.Rows PySem.Calls
namespace Mine
variable [Inhabited Base]
theorem stepL_len {xs : List Int} (h : 2 ≤ xs.length) : (stepL xs).length = xs.length := by
  unfold stepL
  simp only [List.length_append, List.length_take, List.length_map, List.length_range, List.length_drop]
  omega
theorem med_in {a b c : Int} (ha : InR a) (hb : InR b) (hc : InR c) : InR (med a b c) := by
  rcases med_or a b c with e | e | e <;> rw [e] <;> assumption
theorem stepL_in {xs : List Int} (hin : ∀ x ∈ xs, InR x) : ∀ x ∈ stepL xs, InR x := by
  intro x hx
  unfold stepL at hx
  rcases List.mem_append.mp hx with hx | hx
  · rcases List.mem_append.mp hx with hx | hx
    · exact hin x (List.mem_of_mem_take hx)
    · obtain ⟨i, hi, rfl⟩ := List.mem_map.mp hx
      have hi := List.mem_range.mp hi
      exact med_in (hin _ (getD_mem (by omega))) (hin _ (getD_mem (by omega))) (hin _ (getD_mem (by omega)))
  · exact hin x (List.mem_of_mem_drop hx)
/-- the step taken k times -/
def stepN : Nat → List Int → List Int
  | 0, xs => xs
  | k + 1, xs => stepL (stepN k xs)
theorem stepN_len {xs : List Int} (h : 2 ≤ xs.length) : ∀ k, (stepN k xs).length = xs.length
  | 0 => rfl
  | k + 1 => by show (stepL (stepN k xs)).length = _; rw [stepL_len (by rw [stepN_len h k]; exact h), stepN_len h k]
theorem stepN_in {xs : List Int} (hin : ∀ x ∈ xs, InR x) : ∀ k, ∀ x ∈ stepN k xs, InR x
  | 0 => hin
  | k + 1 => stepL_in (stepN_in hin k)
end Mine
end

section
open PySem PySem.W PySem.W.X PyProof.Rows PySem.Calls
namespace Mine
variable [Inhabited Base]
section
variable {w : World} {A : Around} {E Q : Value → Shared → Prop} {s : Shared}
theorem red_spec {r R : Addr} {k : Nat} {ta tb' tc : Tok} {items : Array Value} {xs : List Int} (X : CxB w s.heap) (tb : Tb s.heap) (hA : OkA A 610 260) (hr : s.heap.PlainList r items) (hx : IsPcs items.toList xs) (hin : ∀ x ∈ xs, InR x) (h3 : 3 ≤ xs.length) (h10 : xs.length ≤ 100)
    (hR : IsRange s.heap R 0 k 1 ta tb' tc) (hk : k < 1000)
    (hQ : ∀ D h' tk ys, Go s.heap h' → h'.PlainList D ys → IsPcs ys.toList (stepN k xs) → Q (.ref D) { s with heap := h', toks := tk }) :
    wpAny (model PySem.Challenge.rw_qh0048_01.row.prog w) A (call (.ref 125) [.ref 156, .ref R, .ref r]) Q E s := by
  refine enterP (binds := [(Str.ofString "function", .ref 156), (Str.ofString "sequence", .ref R), (Str.ofString "initial", .ref r)]) X.cx rfl (by kernel_rfl) (Nat.lt_of_le_of_lt hA.depth (Nat.le_of_ble_eq_true rfl)) ?hb (locs (by kernel_rfl)) rfl rfl rfl (by decide) fun L h₁ tk k₁ fL ns => ?_
  case hb =>
    refine' binds_K X.cx.k rfl rfl rfl ?h1 ?h2
    case h1 => rfl
    case h2 => rfl
  have X₁ : CxB w h₁ := X.keeps k₁.toB
  have nLR : R ≠ L := fun z => by rw [← z, hR] at fL; cases fL
  have nLr : r ≠ L := fun z => by obtain ⟨n, e⟩ := hr; rw [← z, e] at fL; cases fL
  refine wpAny_execs_cons ?_
  refine wpAny_Assign_Name (wpAny_Call_NameR (Mine.nm_bi X₁.cx (v := .builtin "iter") (by kernel_rfl) (by kernel_rfl) (by decide) ?_))
  refine PyProof.Rows.callWith_builtin1 ?_
  refine spliced_more (Mine.nm_loc ns rfl ?_)
  refine spliced_none (call_iter ?_)
  refine wpAny_pyIter_range (k₁ _ _ hR) (small_one (by decide) (by decide) (by lia) (by lia)) ?_
  have nI : h₁.get? h₁.objs.size = none := get_size_none _
  generalize hI : h₁.objs.size = I at *
  have fI : s.heap.get? I = none := al_of k₁ _ nI
  have nIL : I ≠ L := fun z => by obtain ⟨o, _, _, e, _⟩ := ns; rw [z, e] at nI; cases nI
  have kp : Keep h₁ (h₁.push { cls := .type "range_iterator", data := .fields #[rawInt 0, rawInt (Builtin.Range.rangeSize 0 k 1), rawInt 1] }) := fun b o e => Heap.get?_push_of_some _ e
  have oI : (h₁.push { cls := .type "range_iterator", data := .fields #[rawInt 0, rawInt (Builtin.Range.rangeSize 0 k 1), rawInt 1] }).get? I = some { cls := .type "range_iterator", data := .fields #[rawInt 0, rawInt (Builtin.Range.rangeSize 0 k 1), rawInt 1] } := by
    rw [← hI]; exact Heap.get?_push_size _ rfl
  have hsize : Builtin.Range.rangeSize 0 k 1 = k := by rw [rangeSize_one]; split <;> lia
  rw [hsize] at oI kp ⊢
  generalize hH : h₁.push { cls := .type "range_iterator", data := .fields #[rawInt 0, rawInt (k : Int), rawInt 1] } = H at *
  refine wpAny_storeName_local (by kernel_rfl) (ns.keeps kp) (fun h₂ ns₂ hs₂ => ?_) rfl
  refine norm_sa (h := h₂) (g := s.gens) (d := s.drawn) (o := s.os) ?_
  intro tkn
  have sL : ∀ {b : Addr} {o : Obj}, s.heap.get? b = some o → b ≠ L := fun e z => by rw [z, fL] at e; cases e
  have k₂ : Keep s.heap h₂ := fun b o e => hs₂.extBut b o (sL e) (kp _ _ (k₁ _ _ e))
  have X₂ : CxB w h₂ := X.keeps k₂.toB
  have oI₂ := hs₂.extBut I _ nIL oI
  obtain ⟨nr, hr0⟩ := id hr
  have n117 : r ≠ 117 := fun z => by
    rw [z, X.cx.k 117 _ rfl] at hr0
    have := congrArg Obj.cls (Option.some.inj hr0)
    exact absurd this (by intro q; injection q with q; revert q; decide)
  refine wpAny_execs_cons ?_
  refine wpAny_If (wpAny_isTrue_Compare1 (Mine.nm_loc ns₂ (v := .ref r) (by kernel_rfl) (Mine.nm_glob X₂.cx (v := .ref 117) (by kernel_rfl) ?_)))
  refine wpAny_is_ref_other n117 (k₂ _ _ hr0) (X₂.cx.k 117 _ rfl) (by intro q; injection q with q; revert q; decide) ?_
  refine e_pure ?_
  rw [if_neg Bool.false_ne_true]
  refine wpAny_execs_cons ?_
  refine wpAny_Assign_Name (Mine.nm_loc ns₂ (v := .ref r) (by kernel_rfl) ?_)
  refine wpAny_storeName_local (by kernel_rfl) ns₂ (fun h₃ ns₃ hs₃ => ?_) rfl
  refine norm_sa (h := h₃) (g := s.gens) (d := s.drawn) (o := s.os) ?_
  intro tkn
  refine wpAny_execs_nil ?_
  have k₃ : Keep s.heap h₃ := fun b o e => hs₃.extBut b o (sL e) (k₂ _ _ e)
  have oI₃ := hs₃.extBut I _ nIL oI₂
  have X₃ : CxB w h₃ := X.keeps k₃.toB
  refine wpAny_execs_cons ?_
  refine wpAny_For (Mine.nm_loc ns₃ (v := .ref I) (by kernel_rfl) ?_) (fun _ => rfl)
  refine Walks.self (Walks.range ?hh I 0 1 k) 0 ⟨h₃, _, _, _, _⟩ _ _ (by simpa using oI₃) ?_
  case hh => exact hA.handled
  refine for_walk (Walks.range ?hh I 0 1 k) (by kernel_rfl) rfl ?hLf (fun i h m => Go s.heap h ∧ Pl h I ∧ m (Str.ofString "function") = some (.ref 156) ∧ ∃ D ys, D ≠ I ∧ m (Str.ofString "value") = some (.ref D) ∧ h.PlainList D ys ∧ IsPcs ys.toList (stepN i xs)) (by simpa using oI₃) ns₃ ?h0 ?turn ?done
  case hh => exact hA.handled
  case hLf => exact fun (z : L ∈ [I]) => nIL (List.mem_singleton.mp z).symm
  case h0 => exact ⟨k₃.go, .of oI₃, by kernel_rfl, r, items, fun z => (by rw [z, fI] at hr0; cases hr0), by kernel_rfl, hr.at fun o e => k₃ _ _ e, hx⟩
  case turn =>
    rintro i v h₀ h tk' m hi ⟨ti, rfl⟩ ⟨go, pI, hf, D, ys, nDI, hv, ⟨nD, hD⟩, hys⟩ ns0 rel st nsh
    refine norm_sa (h := h) (g := s.gens) (d := s.drawn) (o := s.os) ?_
    intro tkn
    replace ns0 : h₀.Ns L m := ns0
    replace nsh : h.Ns L _ := nsh
    replace rel : ∀ b o, b ∉ [I] → b ≠ L → h₀.get? b = some o → h.get? b = some o := rel
    have goh : Go s.heap h := go.iter (ws := [I, L]) (by simp [fI, fL]) (by simp [pI, Pl.ns ns0]) (fun b o hb e => rel b o (by simp at hb; simpa using hb.1) (by simp at hb; exact hb.2) e)
    have nDL : D ≠ L := fun z => by
      obtain ⟨o, _, _, e, d, _⟩ := ns0
      rw [← z, hD] at e; cases e; cases d
    have hDh : h.PlainList D ys := ⟨nD, rel _ _ (by simpa using nDI) nDL hD⟩
    have Xh : CxB w h := X.keeps goh.kb
    refine wpAny_execs_cons ?_
    refine wpAny_Assign_Name (wpAny_Call_NameR (Mine.nm_loc nsh (v := .ref 156) ?_ ?_))
    · exact hf
    refine callWith_K Xh.cx.k (by kernel_rfl) ?_
    refine spliced_more (Mine.nm_loc nsh (v := .ref D) hv ?_)
    refine spliced_more (Mine.nm_loc nsh (v := .int (0 + (i : Int) * 1) ti) rfl ?_)
    refine spliced_none ⟨Xh.cx.k, ?_⟩
    refine step_spec (s := ⟨h, _, _, _, _⟩) (xs := stepN i xs) Xh (goh.tb tb) (hA.deeper.mono (Nat.le_of_ble_eq_true rfl) (Nat.le_of_ble_eq_true rfl)) hDh hys (stepN_in hin i) (by rw [stepN_len (by lia)]; exact h3) (by rw [stepN_len (by lia)]; exact h10) ?_
    intro D' h' tk'' ys' go' fD' pD' hys'
    have nsh' : h'.Ns L _ := ns_goB nsh go'.kb
    refine wpAny_storeName_local (by kernel_rfl) nsh' (fun h'' ns'' hs'' => ?_) rfl
    refine norm_sa (h := h'') (g := s.gens) (d := s.drawn) (o := s.os) ?_
    intro tkn
    replace hs'' : Heap.SameBut L h' h'' := hs''
    refine wpAny_execs_nil ⟨.inl rfl, h'', _, _, rfl, ?_, ns'', ?_⟩
    · intro b hb o e
      rw [List.mem_singleton.mp hb] at e ⊢
      rw [st] at e; cases e
      exact hs''.extBut I _ nIL (go'.kb I _ rfl st)
    · obtain ⟨n', e'⟩ := pD'
      have nD'L : D' ≠ L := fun z => by
        obtain ⟨o, _, _, e, _⟩ := nsh
        rw [z] at fD'
        exact absurd (fD'.symm.trans e) (by simp)
      have nD'I : D' ≠ I := fun z => by rw [z] at fD'; exact absurd (fD'.symm.trans st) (by simp)
      refine ⟨(goh.trans go').iter (ws := [L]) (by simp [fL]) (by simp [Pl.ns nsh']) (fun b o hb e => hs''.extBut b o (by simpa using hb) e), .of (hs''.extBut I _ nIL (go'.kb I _ rfl st)), ?_, D', ys', nD'I, if_pos rfl, ⟨n', hs''.extBut _ _ nD'L e'⟩, hys'⟩
      show (if Str.ofString "function" = Str.ofString "value" then _ else if Str.ofString "function" = Str.ofString "element" then _ else _) = _
      rw [if_neg (by decide), if_neg (by decide)]; exact hf
  case done =>
    rintro h₀ h tk' m ⟨go, pI, hf, D, ys, nDI, hv, hD, hys⟩ rel nsh
    have goh : Go s.heap h := go.iter (ws := [I]) (by simp [fI]) (by simp [pI]) (fun b o hb e => rel b o hb e)
    have hDh : h.PlainList D ys := hD.at fun o e => rel _ _ (by simpa using nDI) e
    refine wpAny_execs_cons ?_
    rw [arm_exec_Return]
    refine e_at ?_
    refine e_bindp () rfl ?_
    refine e_bind ?_
    refine Mine.nm_loc nsh (v := .ref D) hv ?_
    refine e_pure ?_
    exact hQ D h _ ys goh hDh hys
end
end Mine
end

section
open PySem PySem.W PySem.W.X PyProof.Rows PySem.Calls
namespace Mine
theorem ite_p {c : Bool} {P Q : Prop} (h1 : c = true → P) (h2 : c = false → Q) : if c = true then P else Q := by
  cases c
  · rw [if_neg Bool.false_ne_true]; exact h2 rfl
  · rw [if_pos rfl]; exact h1 rfl
section
variable {w : World} {A : Around} {s : Shared} {E : Value → Shared → Prop}
/-- the numbers of a list, by their places -/
theorem places {vs : List Value} {ns : List Int} (hi : IntsAre vs ns) (hne : 0 < ns.length) :
    ∃ xs : Array (Int × Tok), vs.toArray = intItems xs ∧ 0 < xs.size ∧ (∀ i, i ≤ xs.size - 1 → numAt xs i ∈ ns) ∧ ∀ a, a ∈ ns → ∃ j, j ≤ xs.size - 1 ∧ numAt xs j = a := by
  obtain ⟨xs, e⟩ := hi.allInts.items
  have en : xs.toList.map (·.1) = ns := by rw [← nums_intItems, ← e]; exact hi.numsOf
  have ez : ns.length = xs.size := by rw [← en]; simp
  refine ⟨xs, e, ez ▸ hne, fun i q => ?_, fun a q => ?_⟩
  · have lt : i < (xs.toList.map (·.1)).length := by rw [en, ez]; omega
    rw [numAt_eq, ← en, List.getD_eq_getElem?_getD, List.getElem?_eq_getElem lt]
    exact List.getElem_mem lt
  · rw [← en] at q
    obtain ⟨j, lt, q⟩ := mem_getD q
    rw [en, ez] at lt
    exact ⟨j, Nat.le_sub_one_of_lt lt, (numAt_eq xs j).trans q⟩
theorem min_rule {l : Addr} {vs : List Value} {ns : List Int} {Q : Value → Shared → Prop} (hh : A.handled = none) (hl : s.heap.IsList l vs.toArray) (hi : IntsAre vs ns) (hne : 0 < ns.length)
    (h : ∀ h' M (t : Tok) tk, Keep s.heap h' → M ∈ ns → (∀ a, a ∈ ns → M ≤ a) → Q (.int M t) { s with heap := h', toks := tk }) :
    wpAny (model PySem.Challenge.rw_qh0048_01.row.prog w) A (call (.builtin "min") [.ref l]) Q E s :=
  let ⟨xs, e, z, mem, all⟩ := places hi hne
  have best := argBest_lt (numAt xs) (xs.size - 1)
  min_intList hh (e ▸ hl) z fun _ _ _ v k => by
    obtain ⟨t, rfl⟩ := intItems_at v
    exact h _ _ t _ k (mem _ best.1) fun a q => let ⟨j, lt, ea⟩ := all a q; ea ▸ best.2 j lt
theorem max_rule {l : Addr} {vs : List Value} {ns : List Int} {Q : Value → Shared → Prop} (hh : A.handled = none) (hl : s.heap.IsList l vs.toArray) (hi : IntsAre vs ns) (hne : 0 < ns.length)
    (h : ∀ h' M (t : Tok) tk, Keep s.heap h' → M ∈ ns → (∀ a, a ∈ ns → a ≤ M) → Q (.int M t) { s with heap := h', toks := tk }) :
    wpAny (model PySem.Challenge.rw_qh0048_01.row.prog w) A (call (.builtin "max") [.ref l]) Q E s :=
  let ⟨xs, e, z, mem, all⟩ := places hi hne
  have best := argBest_gt (numAt xs) (xs.size - 1)
  max_intList hh (e ▸ hl) z fun _ _ _ v k => by
    obtain ⟨t, rfl⟩ := intItems_at v
    exact h _ _ t _ k (mem _ best.1) fun a q => let ⟨j, lt, ea⟩ := all a q; ea ▸ best.2 j lt
theorem walks_mono {I : Addr} {fp wr : List Addr} {n : Nat} {P P' : Nat → Value → Prop} {St : Nat → Heap → Prop} (W : Walks PySem.Challenge.rw_qh0048_01.row.prog w A I fp wr n P St) (h : ∀ i v, i < n → P i v → P' i v) : Walks PySem.Challenge.rw_qh0048_01.row.prog w A I fp wr n P' St :=
  ⟨W.sub, W.frame, fun i s Q E hi st hQ => W.item i s Q E hi st fun v h' tk hv => hQ v h' tk (h i v hi hv), W.done, W.self⟩
theorem src_mono {xv : Value} {s : Shared} {n : Nat} {P P' : Nat → Value → Prop} (x : SrcOk w A xv s n P) (h : ∀ i v, i < n → P i v → P' i v) : SrcOk w A xv s n P' :=
  fun Q E k => x Q E fun I fp wr St h₂ W a b c d e => k I fp wr St h₂ (walks_mono W h) a b c d e
inductive AsgOk (w : World) (A : Around) (env : Env) (elt : Expr) (x y : Str) (ifs : List Expr) (scope : Scope) (cl : List (Str × Addr)) (p : Value → Bool) (R : Value → Value → Prop) (Q : Flow → Shared → Prop) (xv : Value) (s₁ : Shared) : Prop
  | mk (n : Nat) (P : Nat → Value → Prop) (m : Str → Option Value) (hn : n ≤ sizeLine) (hsrc : SrcOk w A xv s₁ n P) (hL : s₁.heap.Ns env.locals m)
      (ht : ∀ C i v s₃ m₃ E', s₁.heap.objs.size ≤ C → P i v → s₃.heap.Ns C m₃ → m₃ x = some v → Keep s₁.heap s₃.heap →
        wpAny (model PySem.Challenge.rw_qh0048_01.row.prog w) A (forIn ifs true fun c r => if r = true then do let ok ← isTrue c (compEnvC scope cl C env) (eval c (compEnvC scope cl C env)); pure (ForInStep.yield ok) else pure (ForInStep.yield r))
          (fun ok s₄ => ok = p v ∧ Keeps s₃ s₄) E' s₃)
      (he : ∀ C i v s₃ m₃ E', s₁.heap.objs.size ≤ C → P i v → p v = true → s₃.heap.Ns C m₃ → m₃ x = some v → Keep s₁.heap s₃.heap →
        wpAny (model PySem.Challenge.rw_qh0048_01.row.prog w) A (eval elt (compEnvC scope cl C env)) (fun y s₄ => R v y ∧ Keeps s₃ s₄) E' s₃)
      (hQ : ∀ D h' tk ys (vs : List Value), s₁.heap.get? D = none → h'.PlainList D ys → vs.length = n → (∀ j v, vs[j]? = some v → P j v) → Paired R (vs.filter p) ys.toList → h'.Ns env.locals (fun z => if z = y then some (.ref D) else m z) →
        (∀ b o, b ≠ env.locals → s₁.heap.get? b = some o → h'.get? b = some o) → Q .next { s₁ with heap := h', toks := tk }) : AsgOk w A env elt x y ifs scope cl p R Q xv s₁
/-- a name is given a list comprehension over one source -/
theorem asg_comp {s : Shared} {env : Env} {elt iter : Expr} {x y : Str} {px py : Pos} {ifs : List Expr} {scope : Scope} {cl : List (Str × Addr)} {pos spos : Pos} {Q : Flow → Shared → Prop} (p : Value → Bool) (R : Value → Value → Prop)
    (hsw : swapsWith (.ListComp elt [⟨.Name x px, iter, ifs, 0⟩] scope pos) (some (.Name y py)) spos.line env = pure true)
    (hclos : closureFor scope env = pure cl) (hcell : ∀ y ∈ scope.names, y.2 ≠ .cell) (hkind : scope.kind = .function)
    (hnames : ∀ y ∈ scope.names, y.2 = .local → scope.names.lookup y.1 = some .local) (hx : scope.names.lookup x = some .local)
    (hy : env.kindOf y = some .local) (hp : (env.scope.kind == .class || (env.scope.kind == .module && env.locals != env.globals)) = false)
    (h : wpAny (model PySem.Challenge.rw_qh0048_01.row.prog w) A (eval iter env) (AsgOk w A env elt x y ifs scope cl p R Q) E s)
    (hs : ∀ x, foldedSetIterable iter env x = pure x) :
    wpAny (model PySem.Challenge.rw_qh0048_01.row.prog w) A (exec (.Assign [.Name y py] (.ListComp elt [⟨.Name x px, iter, ifs, 0⟩] scope pos) spos) env) Q E s := by
  refine wpAny_Assign_ListComp_free p R hsw hclos hcell hkind hnames hx hy hp (wpAny_mono h (fun xv s₁ h₁ => ?_) fun _ _ e => e) hs
  obtain ⟨n, P, m, hn, hsrc, hL, ht, he, hQ⟩ := h₁
  refine hsrc _ _ fun I fp wr St h₂ W hst hfp hwr hk hsz => ?_
  have nw : ∀ {h' : Heap}, (∀ b o, b ∉ wr → h₂.get? b = some o → h'.get? b = some o) → Keep s₁.heap h' := fun hh b o e => hh b o (fun hb => by rw [hwr b hb] at e; cases e) (hk b o e)
  have hLw : env.locals ∉ wr := fun hb => by obtain ⟨o, _, _, e, _⟩ := hL; rw [hwr _ hb] at e; cases e
  refine ⟨I, fp, wr, n, P, St, m, rfl, W, hn, hst, hfp, hLw, hL.keeps hk, ⟨?_, ?_⟩, ?_⟩
  · intro C i v s₃ m₃ E' hC hP hns hm hkk _
    exact ht C i v s₃ m₃ E' (Nat.le_trans hsz hC) hP hns hm (nw hkk)
  · intro C i v s₃ m₃ E' hC hP hp hns hm hkk _
    exact he C i v s₃ m₃ E' (Nat.le_trans hsz hC) hP hp hns hm (nw hkk)
  · intro D h' tk ys vs hD _ hpl hlen hP hF hns hkk
    refine hQ D h' tk ys vs ?_ hpl hlen hP hF hns fun b o hbL e => hkk b o hbL (fun hb => by rw [hwr b hb] at e; cases e) (hk b o e)
    cases q : s₁.heap.get? D with
    | none => rfl
    | some o => have := hk _ _ q; rw [show ({ s₁ with heap := h₂ } : Shared).heap.get? D = none from hD] at this; cases this
theorem range1_rule {n : Int} {t : Tok} {Q : Value → Shared → Prop}
    (h : ∀ R h' tk ta tb tc, Keep s.heap h' → s.heap.get? R = none → IsRange h' R 0 n 1 ta tb tc → Q (.ref R) { s with heap := h', toks := tk }) :
    wpAny (model PySem.Challenge.rw_qh0048_01.row.prog w) A (call (.type "range") [.int n t]) Q E s :=
  call_range_1 (h _ _ _ _ _ _ (fun b o e => Heap.get?_push_of_some _ e) (get_size_none _) (IsRange.new ..))
theorem range3_rule {a b c : Int} {ta tb tc : Tok} {Q : Value → Shared → Prop} {r : Addr} {n : Nat} (hr : IsRange s.heap r a b c ta tb tc) (hs : Builtin.Range.small a b c = true) (hn : Builtin.Range.rangeSize a b c = n)
    (h : ∀ I h', Keep s.heap h' → s.heap.get? I = none → IsRangeIter h' I a n c → Q (.ref I) { s with heap := h' }) :
    wpAny (model PySem.Challenge.rw_qh0048_01.row.prog w) A (pyIter (.ref r)) Q E s := by
  refine wpAny_pyIter_range hr hs ?_
  rw [hn]
  exact h _ _ (fun b o e => Heap.get?_push_of_some _ e) (get_size_none _) (Heap.get?_push_size _ rfl)
end
end Mine
end

section
open PySem PySem.W PySem.W.X PyProof.Rows PySem.Calls
namespace Mine
variable [Inhabited Base]
def stB (bs : List Bool) (j : Nat) : Bool := j == 0 || (j == bs.length - 1 || (bs.getD j false == bs.getD (j - 1) false || bs.getD j false == bs.getD (j + 1) false))
def stL (bs : List Bool) : List Nat := (List.range bs.length).filter (stB bs)
def dst (i j : Nat) : Nat := (i - j) + (j - i)
def nearB (bs : List Bool) (i : Nat) : Nat := (((stL bs).map (dst i)).min?).getD 0
def holdsB (bs : List Bool) (i : Nat) : Bool := if stB bs (i - nearB bs i) then bs.getD (i - nearB bs i) false else bs.getD (i + nearB bs i) false
theorem near_spec {bs : List Bool} {i : Nat} {M : Int} (hm : M ∈ (stL bs).map (fun j => ((dst i j : Nat) : Int))) (hl : ∀ a, a ∈ (stL bs).map (fun j => ((dst i j : Nat) : Int)) → M ≤ a) : M = (nearB bs i : Int) := by
  obtain ⟨j, hj, rfl⟩ := List.mem_map.mp hm
  have e : ((stL bs).map (dst i)).min? = some (dst i j) := by
    rw [List.min?_eq_some_iff]
    refine ⟨List.mem_map_of_mem hj, fun b hb => ?_⟩
    obtain ⟨k, hk, rfl⟩ := List.mem_map.mp hb
    have := hl _ (List.mem_map_of_mem hk)
    lia
  unfold nearB; rw [e]; rfl
theorem zero_st {bs : List Bool} (h : 0 < bs.length) : 0 ∈ stL bs := by
  unfold stL; rw [List.mem_filter]; exact ⟨List.mem_range.mpr h, rfl⟩
theorem near_at {bs : List Bool} {i : Nat} (h : 0 < bs.length) : nearB bs i ≤ i ∧ ∃ j ∈ stL bs, dst i j = nearB bs i := by
  have hz : ((stL bs).map (dst i)).min? ≠ none := by
    intro e; rw [List.min?_eq_none_iff, List.map_eq_nil_iff] at e
    have := zero_st h; rw [e] at this; cases this
  cases e : ((stL bs).map (dst i)).min? with
  | none => exact absurd e hz
  | some x =>
    have hx := List.min?_eq_some_iff.mp e
    have hn : nearB bs i = x := by unfold nearB; rw [e]; rfl
    rw [hn]
    refine ⟨?_, ?_⟩
    · have := hx.2 _ (List.mem_map_of_mem (zero_st h) (f := dst i)); unfold dst at this; lia
    · obtain ⟨j, hj, e2⟩ := List.mem_map.mp hx.1; exact ⟨j, hj, e2⟩
theorem near_up {bs : List Bool} {i : Nat} (h : 0 < bs.length) (hn : stB bs (i - nearB bs i) = false) : i + nearB bs i < bs.length := by
  obtain ⟨h1, j, hj, e⟩ := near_at (i := i) h
  unfold stL at hj; rw [List.mem_filter] at hj
  have hj1 := List.mem_range.mp hj.1
  by_cases q : j ≤ i
  · have : i - nearB bs i = j := by rw [← e]; unfold dst; lia
    rw [this, hj.2] at hn; cases hn
  · have : nearB bs i = j - i := by rw [← e]; unfold dst; lia
    lia
theorem filt_ints {bs : List Bool} : ∀ (vs : List Value) (off : Nat) (ys : List Value), (∀ (j : Nat) (v : Value), vs[j]? = some v → ∃ t, v = .int ((off + j : Nat) : Int) t) →
    Paired (fun v y => ∃ j t t', v = Value.int j t ∧ y = .int j t') (vs.filter fun v => match v with | .int j _ => stB bs j.toNat | _ => false) ys → IntsAre ys (((List.range' off vs.length).filter (stB bs)).map fun j => ((j : Nat) : Int))
  | [], off, ys, _, h => by cases h; exact .nil
  | v :: vs, off, ys, hv, h => by
    obtain ⟨t, rfl⟩ := hv 0 v rfl
    have hv' : ∀ (j : Nat) (u : Value), vs[j]? = some u → ∃ t, u = .int ((off + 1 + j : Nat) : Int) t := fun j u e => by
      obtain ⟨t, e2⟩ := hv (j + 1) u e
      exact ⟨t, by rw [e2]; congr 2; lia⟩
    rw [List.length_cons, List.range'_succ, List.filter_cons]
    rw [List.filter_cons] at h
    simp only [Nat.add_zero, Int.toNat_natCast] at h
    cases q : stB bs off with
    | true =>
      rw [q, if_pos rfl] at h
      rw [if_pos rfl, List.map_cons]
      cases h with
      | cons hr h =>
        obtain ⟨j, t1, t2, e1, rfl⟩ := hr
        cases e1
        exact .cons _ _ (filt_ints vs (off + 1) _ hv' h)
    | false =>
      rw [q, if_neg Bool.false_ne_true] at h
      rw [if_neg Bool.false_ne_true]
      exact filt_ints vs (off + 1) _ hv' h
theorem ints_mem {v : Value} : ∀ {vs : List Value} {ns : List Int}, IntsAre vs ns → v ∈ vs → ∃ n t, v = .int n t
  | _, _, .nil, h => by cases h
  | _, _, .cons n t hi, h => by
    rcases List.mem_cons.mp h with rfl | h
    · exact ⟨n, t, rfl⟩
    · exact ints_mem hi h
theorem map_ints {f : Int → Int} : ∀ {ys : List Value} {ns : List Int} {zs : List Value}, IntsAre ys ns → Paired (fun v y => ∃ j t t', v = Value.int j t ∧ y = .int (f j) t') ys zs → IntsAre zs (ns.map f)
  | _, _, _, .nil, h => by cases h; exact .nil
  | _, _, _, .cons n t hi, h => by
    cases h with
    | cons hr h =>
      obtain ⟨j, t1, t2, e1, rfl⟩ := hr
      cases e1
      exact .cons _ _ (map_ints hi h)
end Mine
end

section
open PySem PySem.W PySem.W.X PyProof.Rows PySem.Calls
namespace Mine
variable [Inhabited Base]
section
variable {w : World} {A : Around} {E Q : Value → Shared → Prop} {s : Shared}
theorem holds_spec {a : Addr} {i : Nat} {t : Tok} {bs : List Bool} (X : Cx w s.heap) (hA : OkA A 640 280) (hl : s.heap.PlainList a (bs.map Value.bool).toArray) (h1 : 2 ≤ bs.length) (h2 : bs.length ≤ 100) (hi : i < bs.length)
    (hQ : ∀ h' tk, Keep s.heap h' → Q (.bool (holdsB bs i)) { s with heap := h', toks := tk }) :
    wpAny (model PySem.Challenge.rw_qh0048_01.row.prog w) A (call (.ref 161) [.ref a, .int i t]) Q E s := by
  refine wpAny_call (call_cells_ret (Nat.lt_of_le_of_lt hA.depth (Nat.le_of_ble_eq_true rfl)) (X.k 161 _ rfl) rfl X.lim (codeRec_of X.k (by kernel_rfl)) (binds := [(Str.ofString "bits", .ref a), (Str.ofString "i", .int i t)]) (by kernel_rfl) ?hk fun h₁ tk F Cl => ?_)
  case hk =>
    intro x hx
    rcases List.mem_cons.mp hx with rfl | hx
    · exact .inr ⟨rfl, rfl⟩
    · rw [List.mem_singleton.mp hx]; exact .inr ⟨rfl, rfl⟩
  have k₁ : Keep s.heap h₁ := F.keep
  have hns := F.ns
  have c1 : h₁.IsCell (s.heap.objs.size + 1) (some (.ref a)) := Cl.cell (Str.ofString "bits") _ rfl
  have c2 : h₁.IsCell (s.heap.objs.size + 2) (some (.int i t)) := Cl.cell (Str.ofString "i") _ rfl
  have c3 : h₁.IsCell (s.heap.objs.size + 3) none := Cl.cell (Str.ofString "end") _ rfl
  clear F Cl
  have X₁ : Cx w h₁ := X.keeps k₁
  have hl₁ : h₁.IsList a (bs.map Value.bool).toArray := (hl.at fun o e => k₁ _ _ e).isList
  have hsz : (bs.map Value.bool).toArray.size = bs.length := by simp
  refine wpAny_execs_cons ?_
  refine wpAny_Assign_Name (wpAny_BinOp (wpAny_Call_NameR (Mine.nm_bi X₁ (v := .builtin "len") (by kernel_rfl) (by kernel_rfl) (by decide) ?_)))
  refine PyProof.Rows.callWith_builtin1 ?_
  refine spliced_more (Mine.nm_cell (c := s.heap.objs.size + 1) rfl c1 ?_)
  refine spliced_none ?_
  refine len_list hl₁ (by rw [hsz]; lia) ?_
  refine wpAny_Constant_int ?_
  refine PyProof.Rows.sub_int ?_
  rw [hsz]
  refine wpAny_storeName_cell (c := s.heap.objs.size + 3) rfl (by kernel_rfl) rfl c3 fun h₂ c3 hs₂ => ?_
  refine norm_sa (h := h₂) (g := s.gens) (d := s.drawn) (o := s.os) ?_
  intro tkn
  have fr : ∀ k, s.heap.get? (s.heap.objs.size + k) = none := fun k => by
    cases e : s.heap.get? (s.heap.objs.size + k) with
    | none => rfl
    | some o => exact absurd (Heap.lt_size e) (Nat.not_lt.mpr (Nat.le_add_right _ _))
  have n3 : ∀ {b : Addr} {o : Obj}, s.heap.get? b = some o → b ≠ s.heap.objs.size + 3 := fun e z => by rw [z, fr 3] at e; cases e
  have k₂ : Keep s.heap h₂ := fun b o e => hs₂.extBut b o (n3 e) (k₁ b o e)
  have nn : ∀ i j : Nat, i ≠ j → s.heap.objs.size + i ≠ s.heap.objs.size + j := fun i j n z => n (Nat.add_left_cancel z)
  have hns₂ := hns.sameBut hs₂ (nn 0 3 (by decide))
  have c1 := c1.sameBut hs₂ (nn 1 3 (by decide))
  have c2 := c2.sameBut hs₂ (nn 2 3 (by decide))
  have X₂ : Cx w h₂ := X.keeps k₂
  have hl₂ : h₂.IsList a (bs.map Value.bool).toArray := (hl.at fun o e => k₂ _ _ e).isList
  refine wpAny_execs_cons ?_
  refine asg_comp (cl := [(Str.ofString "end", s.heap.objs.size + 3), (Str.ofString "bits", s.heap.objs.size + 1)]) (fun v => match v with | .int j _ => stB bs j.toNat | _ => false) (fun v y => ∃ j t t', v = .int j t ∧ y = .int j t') (by kernel_rfl) (by kernel_rfl) (by decide) rfl (by decide) rfl (by kernel_rfl) rfl ?_ (fun _ => rfl)
  refine wpAny_Call_NameR (Mine.nm_bi X₂ (v := .type "range") (by kernel_rfl) (by kernel_rfl) (by decide) ?_)
  refine PyProof.Rows.callWith_type1 ?_
  refine spliced_more (wpAny_BinOp (Mine.nm_cell (c := s.heap.objs.size + 3) rfl c3 (wpAny_Constant_int (PyProof.Rows.add_int ?_))))
  refine spliced_none ?_
  refine call_range_1 ?_
  refine ⟨bs.length, fun j v => ∃ t, v = .int ((j : Nat) : Int) t ∧ j < bs.length, _, by rw [sizeLine_eq]; lia, ?src, hns₂.push _, ?test, ?elt, ?fin⟩
  case src =>
    have hsz2 : Builtin.Range.rangeSize 0 ((bs.length : Int) - 1 + 1) 1 = (bs.length : Nat) := by rw [rangeSize_one]; split <;> lia
    refine src_mono (Mine.src_range (A := A.deeper _) hA.handled (IsRange.new ..) (small_one (by decide) (by decide) (by lia) (by lia)) hsz2) fun j v hj => ?_
    rintro ⟨t, rfl⟩
    exact ⟨t, by rw [Int.zero_add, Int.mul_one], hj⟩
  case test =>
    rintro C k v s₃ m₃ E' hC ⟨tk', rfl, hk⟩ hn₃ hm₃ k₃
    have kp : ∀ o : Obj, Keep h₂ (h₂.push o) := fun o' b o e => Heap.get?_push_of_some _ e
    have kk : Keep h₂ s₃.heap := (kp _).trans k₃
    have c1 := c1.keeps kk
    have c3 := c3.keeps kk
    have hl₃ : s₃.heap.IsList a (bs.map Value.bool).toArray := (hl.at fun o e => kk _ _ (k₂ _ _ e)).isList
    have it : ∀ j : Nat, j < bs.length → (bs.map Value.bool).toArray[((j : Nat) : Int).toNat]? = some (.bool (bs.getD j false)) := fun j hj => by
      rw [Int.toNat_natCast, List.getElem?_toArray, List.getElem?_map, List.getElem?_eq_getElem hj, List.getD_eq_getElem?_getD, List.getElem?_eq_getElem hj]; rfl
    refine wpAny_tests_one ?_
    refine PyProof.Rows.isTrue_or (wpAny_isTrue_Compare1 (Mine.nm_loc hn₃ hm₃ (wpAny_Constant_int (PyProof.Rows.eq_int (wpAny_truthy_bool ?_)))))
    by_cases h0 : k = 0
    · subst h0
      exact ⟨by unfold stB; rfl, _, _, rfl, fun _ _ e => e⟩
    rw [if_neg (by simpa using h0)]
    refine PyProof.Rows.isTrue_or (wpAny_isTrue_Compare1 (Mine.nm_loc hn₃ hm₃ (Mine.nm_cell (c := s.heap.objs.size + 3) rfl c3 (PyProof.Rows.eq_int (wpAny_truthy_bool ?_)))))
    by_cases hn : k = bs.length - 1
    · rw [if_pos (by rw [beq_iff_eq]; lia)]
      exact ⟨by unfold stB; simp [hn], _, _, rfl, fun _ _ e => e⟩
    rw [if_neg (by rw [beq_iff_eq]; lia)]
    refine PyProof.Rows.isTrue_or (wpAny_isTrue_Compare1 (PyProof.Rows.Subscript_ (Mine.nm_cell (c := s.heap.objs.size + 1) rfl c1 (Mine.nm_loc hn₃ hm₃ ?_))))
    refine PyProof.Rows.item_list hl₃ (by lia) (by lia) (it k hk) ?_
    refine PyProof.Rows.Subscript_ (Mine.nm_cell (c := s.heap.objs.size + 1) rfl c1 (wpAny_BinOp (Mine.nm_loc hn₃ hm₃ (wpAny_Constant_int (PyProof.Rows.sub_int ?_)))))
    refine PyProof.Rows.item_list hl₃ (by lia) (by lia) (x := .bool (bs.getD (k - 1) false)) (by rw [show ((k : Int) - 1) = ((k - 1 : Nat) : Int) by lia]; exact it (k - 1) (by lia)) ?_
    refine PyProof.Rows.eq_bool (wpAny_truthy_bool ?_)
    by_cases h3 : (bs.getD k false == bs.getD (k - 1) false) = true
    · rw [if_pos h3]
      exact ⟨by show _ = stB bs ((k : Int).toNat); unfold stB; rw [Int.toNat_natCast, h3]; simp, _, _, rfl, fun _ _ e => e⟩
    rw [if_neg h3]
    refine PyProof.Rows.isTrue_or (wpAny_isTrue_Compare1 (PyProof.Rows.Subscript_ (Mine.nm_cell (c := s.heap.objs.size + 1) rfl c1 (Mine.nm_loc hn₃ hm₃ ?_))))
    refine PyProof.Rows.item_list hl₃ (by lia) (by lia) (it k hk) ?_
    refine PyProof.Rows.Subscript_ (Mine.nm_cell (c := s.heap.objs.size + 1) rfl c1 (wpAny_BinOp (Mine.nm_loc hn₃ hm₃ (wpAny_Constant_int (PyProof.Rows.add_int ?_)))))
    refine PyProof.Rows.item_list hl₃ (by lia) (by lia) (x := .bool (bs.getD (k + 1) false)) (by rw [show ((k : Int) + 1) = ((k + 1 : Nat) : Int) by lia]; exact it (k + 1) (by lia)) ?_
    refine PyProof.Rows.eq_bool (wpAny_truthy_bool ?_)
    have fin : ∀ b : Bool, (bs.getD k false == bs.getD (k + 1) false) = b → b = stB bs ((k : Int).toNat) := fun b e => by
      have h3' : (bs.getD k false == bs.getD (k - 1) false) = false := by simpa using h3
      have h0' : (k == 0) = false := by simpa using h0
      have hn' : (k == bs.length - 1) = false := by simpa using hn
      unfold stB; rw [Int.toNat_natCast, h3', e, h0', hn']; rfl
    by_cases h4 : (bs.getD k false == bs.getD (k + 1) false) = true
    · rw [if_pos h4]
      exact ⟨fin true h4, _, _, rfl, fun _ _ e => e⟩
    rw [if_neg h4]
    refine PyProof.Rows.isTrue_or_nil ?_
    exact ⟨fin false (by simpa using h4), _, _, rfl, fun _ _ e => e⟩
  case elt =>
    rintro C k v s₃ m₃ E' hC ⟨tk', rfl, hk⟩ hp hn₃ hm₃ k₃
    refine Mine.nm_loc hn₃ hm₃ ?_
    exact ⟨⟨_, _, _, rfl, rfl⟩, _, _, rfl, fun _ _ e => e⟩
  case fin =>
    intro D h' tk' ys vs fD hD hvs hP hF ns' kk
    refine norm_sa (h := h') (g := s.gens) (d := s.drawn) (o := s.os) ?_
    intro tkn
    have hnsD : h'.Ns s.heap.objs.size _ := ns'
    replace kk : ∀ b o, b ≠ s.heap.objs.size → _ → h'.get? b = some o := kk
    have kp : ∀ o : Obj, Keep h₂ (h₂.push o) := fun o' b o e => Heap.get?_push_of_some _ e
    have n0 : ∀ {b : Addr} {o : Obj}, s.heap.get? b = some o → b ≠ s.heap.objs.size := fun e z => by rw [z] at e; cases (fr 0).symm.trans e
    have k' : Keep s.heap h' := fun b o e => kk b o (n0 e) (kp _ _ _ (k₂ b o e))
    have ck : ∀ {j : Nat} {v : Option Value}, 0 ≠ j → h₂.IsCell (s.heap.objs.size + j) v → h'.IsCell (s.heap.objs.size + j) v := fun {j v} hj c => let ⟨o, e, d⟩ := c; ⟨o, kk _ _ (fun z => nn 0 j hj z.symm) (kp _ _ _ e), d⟩
    have c1' := ck (by decide) c1
    have c2' := ck (by decide) c2
    have X' : Cx w h' := X.keeps k'
    have hl' : h'.IsList a (bs.map Value.bool).toArray := (hl.at fun o e => k' _ _ e).isList
    have hys : IntsAre ys.toList ((stL bs).map fun j => ((j : Nat) : Int)) := by
      have := filt_ints (bs := bs) vs 0 ys.toList (fun j v e => by obtain ⟨t, e2, _⟩ := hP j v e; exact ⟨t, by rw [e2, Nat.zero_add]⟩) hF
      rw [hvs, ← List.range_eq_range'] at this; exact this
    have hpos : 0 < ((stL bs).map fun j => ((j : Nat) : Int)).length := by
      rw [List.length_map]; exact List.length_pos_of_mem (zero_st (by lia))
    have hle : ys.size ≤ 100 := by
      have := hys.length; rw [List.length_map, Array.length_toList] at this
      have := List.length_filter_le (stB bs) (List.range bs.length)
      rw [List.length_range] at this; unfold stL at *; lia
    refine wpAny_execs_cons ?_
    refine wpAny_Assign_Name (wpAny_Call_NameR (Mine.nm_bi X' (v := .builtin "min") (by kernel_rfl) (by kernel_rfl) (by decide) ?_))
    refine PyProof.Rows.callWith_builtin1 ?_
    refine spliced_more (comp_rule (cl := [(Str.ofString "i", s.heap.objs.size + 2)]) (fun _ => true) (fun v y => ∃ j t t', v = .int j t ∧ y = .int (if (i : Int) - j < 0 then -((i : Int) - j) else (i : Int) - j) t') (by kernel_rfl) (by decide) rfl (by decide) rfl ?_ (fun _ => rfl))
    refine Mine.nm_loc hnsD (v := .ref D) (if_pos rfl) ?_
    refine ⟨ys.size, fun j v => ys[j]? = some v, by rw [sizeLine_eq]; lia, Mine.src_list (A := A.deeper _) hA.handled hD.isList, ?t2, ?e2, ?f2⟩
    case t2 =>
      intro C j v s₃ m₃ E' hC hj hn₃ hm₃ k₃
      exact wpAny_tests_nil ⟨rfl, _, _, rfl, fun _ _ e => e⟩
    case e2 =>
      intro C j v s₃ m₃ E' hC hj _ hn₃ hm₃ k₃
      obtain ⟨nj, tj, rfl⟩ : ∃ nj tj, v = .int nj tj := by
        exact ints_mem hys (List.mem_of_getElem? (by rw [Array.getElem?_toList]; exact hj))
      have X₃ : Cx w s₃.heap := X'.keeps k₃
      refine wpAny_Call_NameR (Mine.nm_bi X₃ (v := .builtin "abs") (by kernel_rfl) (by kernel_rfl) (by decide) ?_)
      refine PyProof.Rows.callWith_builtin1 ?_
      refine spliced_more (wpAny_BinOp (Mine.nm_cell (c := s.heap.objs.size + 2) rfl (c2'.keeps k₃) (Mine.nm_loc hn₃ hm₃ (PyProof.Rows.sub_int ?_))))
      refine spliced_none ?_
      refine PyProof.Rows.call_abs_int fun u tk => ?_
      exact ⟨⟨_, _, _, rfl, rfl⟩, _, _, rfl, fun _ _ e => e⟩
    case f2 =>
      intro D2 g2 tk2 zs vs2 fD2 hD2 hlen2 hP2 hF2 kg
      refine norm_sa (h := g2) (g := s.gens) (d := s.drawn) (o := s.os) ?_
      intro tkn
      have ev : vs2 = ys.toList := by
        refine List.ext_getElem? fun j => ?_
        by_cases q : j < vs2.length
        · rw [List.getElem?_eq_getElem q, Array.getElem?_toList]
          exact (hP2 j _ (List.getElem?_eq_getElem q)).symm
        · rw [List.getElem?_eq_none (by lia), List.getElem?_eq_none (by rw [Array.length_toList]; lia)]
      rw [List.filter_eq_self.mpr (fun _ _ => rfl), ev] at hF2
      have hzs := map_ints hys hF2
      have X₂' : Cx w g2 := X'.keeps kg
      refine spliced_none ?_
      refine min_rule (A := A.deeper _) hA.handled (vs := zs.toList) hD2.isList hzs (by rw [List.length_map]; exact hpos) ?_
      intro g3 M tM tk3 kg3 hM hMl
      refine norm_sa (h := g3) (g := s.gens) (d := s.drawn) (o := s.os) ?_
      intro tkn
      have hfun : ((stL bs).map fun j => ((j : Nat) : Int)).map (fun j => if (i : Int) - j < 0 then -((i : Int) - j) else (i : Int) - j) = (stL bs).map fun j => ((dst i j : Nat) : Int) := by
        rw [List.map_map]
        refine List.map_congr_left fun j _ => ?_
        show (if (i : Int) - j < 0 then -((i : Int) - j) else (i : Int) - j) = _
        unfold dst; split <;> lia
      rw [hfun] at hM hMl
      have eM := near_spec hM hMl
      subst eM
      have k3 : Keep h' g3 := Keep.trans kg kg3
      refine wpAny_storeName_local (by kernel_rfl) (hnsD.keeps k3) (fun g4 ns4 hs4 => ?_) rfl
      refine norm_sa (h := g4) (g := s.gens) (d := s.drawn) (o := s.os) ?_
      intro tkn
      replace hs4 : Heap.SameBut s.heap.objs.size g3 g4 := hs4
      have k4 : Keep s.heap g4 := fun b o e => hs4.extBut b o (n0 e) (k3 _ _ (k' b o e))
      have c14 := (c1'.keeps k3).sameBut hs4 (nn 1 0 (by decide))
      have c24 := (c2'.keeps k3).sameBut hs4 (nn 2 0 (by decide))
      have X4 : Cx w g4 := X.keeps k4
      have hl4 : g4.IsList a (bs.map Value.bool).toArray := (hl.at fun o e => k4 _ _ e).isList
      have nD : D ≠ s.heap.objs.size := fun z => by
        obtain ⟨n, e⟩ := hD
        obtain ⟨o, _, _, e2, d, _⟩ := hnsD
        rw [z, e2] at e; cases e; cases d
      have hD4 : g4.IsList D ys := ((hD.at fun o e => k3 _ _ e).at fun o e => hs4.extBut D o nD e).isList
      have hnear := (near_at (bs := bs) (i := i) (by lia)).1
      refine wpAny_execs_cons ?_
      refine e_eq (arm_exec_Return _ _ _) ?_
      refine e_at ?_
      refine e_bindp () rfl ?_
      refine e_bind ?_
      refine PyProof.Rows.Subscript_ (Mine.nm_cell (c := s.heap.objs.size + 1) rfl c14 (PyProof.Rows.IfExp_ (wpAny_isTrue_Compare1 (wpAny_BinOp (Mine.nm_cell (c := s.heap.objs.size + 2) rfl c24 (Mine.nm_loc ns4 (v := .int (nearB bs i : Int) tM) (if_pos rfl) (PyProof.Rows.sub_int ?_)))))))
      refine Mine.nm_loc ns4 (v := .ref D) (by rw [if_neg (by decide)]; exact if_pos rfl) ?_
      refine PyProof.Rows.in_list_ints (vs := ys.toList) (by simpa using hD4) hys (wpAny_truthy_bool ?_)
      have hin : (((stL bs).map fun j => ((j : Nat) : Int)).any (· == (i : Int) - (nearB bs i : Int))) = stB bs (i - nearB bs i) := by
        rw [Bool.eq_iff_iff, List.any_eq_true]
        constructor
        · rintro ⟨x, hx, e⟩
          obtain ⟨j, hj, rfl⟩ := List.mem_map.mp hx
          have e := beq_iff_eq.mp e
          have : i - nearB bs i = j := by lia
          rw [this]; unfold stL at hj; exact (List.mem_filter.mp hj).2
        · intro e
          refine ⟨((i - nearB bs i : Nat) : Int), List.mem_map.mpr ⟨i - nearB bs i, by unfold stL; rw [List.mem_filter]; exact ⟨List.mem_range.mpr (by lia), e⟩, rfl⟩, by rw [beq_iff_eq]; lia⟩
      have it : ∀ j : Nat, j < bs.length → (bs.map Value.bool).toArray[((j : Nat) : Int).toNat]? = some (.bool (bs.getD j false)) := fun j hj => by
        rw [Int.toNat_natCast, List.getElem?_toArray, List.getElem?_map, List.getElem?_eq_getElem hj, List.getD_eq_getElem?_getD, List.getElem?_eq_getElem hj]; rfl
      refine ite_p (fun hb => ?_) (fun hb => ?_)
      · rw [hin] at hb
        have eb : holdsB bs i = bs.getD (i - nearB bs i) false := by unfold holdsB; rw [hb, if_pos rfl]
        have q := fun tk => hQ g4 tk k4
        rw [eb] at q
        refine wpAny_BinOp (Mine.nm_cell (c := s.heap.objs.size + 2) rfl c24 (Mine.nm_loc ns4 (v := .int (nearB bs i : Int) tM) (if_pos rfl) (PyProof.Rows.sub_int ?_)))
        refine PyProof.Rows.item_list hl4 (by lia) (by lia) (x := .bool (bs.getD (i - nearB bs i) false)) (by rw [show ((i : Int) - (nearB bs i : Int)) = ((i - nearB bs i : Nat) : Int) by lia]; exact it _ (by lia)) ?_
        refine e_pure ?_
        exact q _
      · rw [hin] at hb
        have eb : holdsB bs i = bs.getD (i + nearB bs i) false := by unfold holdsB; rw [hb, if_neg Bool.false_ne_true]
        have q := fun tk => hQ g4 tk k4
        rw [eb] at q
        have hup := near_up (bs := bs) (i := i) (by lia) hb
        refine wpAny_BinOp (Mine.nm_cell (c := s.heap.objs.size + 2) rfl c24 (Mine.nm_loc ns4 (v := .int (nearB bs i : Int) tM) (if_pos rfl) (PyProof.Rows.add_int ?_)))
        refine PyProof.Rows.item_list hl4 (by lia) (by lia) (x := .bool (bs.getD (i + nearB bs i) false)) (by rw [show ((i : Int) + (nearB bs i : Int)) = ((i + nearB bs i : Nat) : Int) by lia]; exact it _ hup) ?_
        refine e_pure ?_
        exact q _
end
end Mine
end

section
open PySem PySem.W PySem.W.X PyProof.Rows PySem.Calls
namespace Mine
variable [Inhabited Base]
def thr (xs : List Int) (t : Int) : List Bool := xs.map fun n => decide (n ≥ t)
/-- the number due at a place -/
def DueAt (xs : List Int) (i : Nat) (M : Int) : Prop := M ∈ xs ∧ holdsB (thr xs M) i = true ∧ ∀ a ∈ xs, holdsB (thr xs a) i = true → a ≤ M
theorem holds_true {bs : List Bool} {i : Nat} (h : ∀ b ∈ bs, b = true) (hi : i < bs.length) : holdsB bs i = true := by
  have g : ∀ j, j < bs.length → bs.getD j false = true := fun j hj => by
    rw [List.getD_eq_getElem?_getD, List.getElem?_eq_getElem hj]; exact h _ (List.getElem_mem hj)
  unfold holdsB
  cases q : stB bs (i - nearB bs i) with
  | true => rw [if_pos rfl]; exact g _ (by lia)
  | false => rw [if_neg Bool.false_ne_true]; exact g _ (near_up (by lia) q)
theorem min_ex : ∀ {xs : List Int}, xs ≠ [] → ∃ m ∈ xs, ∀ a ∈ xs, m ≤ a
  | [], h => absurd rfl h
  | [x], _ => ⟨x, .head _, fun a ha => by rw [List.mem_singleton.mp ha]; lia⟩
  | x :: y :: r, _ => by
    obtain ⟨m, hm, hl⟩ := min_ex (xs := y :: r) (by simp)
    by_cases q : x ≤ m
    · exact ⟨x, .head _, fun a ha => by
        rcases List.mem_cons.mp ha with rfl | ha
        · lia
        · have := hl a ha; lia⟩
    · exact ⟨m, .tail _ hm, fun a ha => by
        rcases List.mem_cons.mp ha with rfl | ha
        · lia
        · exact hl a ha⟩
theorem due_ex {xs : List Int} {i : Nat} (hi : i < xs.length) : 0 < (xs.filter fun t => holdsB (thr xs t) i).length := by
  obtain ⟨m, hm, hl⟩ := min_ex (xs := xs) (by intro e; rw [e] at hi; cases hi)
  refine List.length_pos_of_mem (a := m) ?_
  rw [List.mem_filter]
  refine ⟨hm, holds_true (fun b hb => ?_) (by unfold thr; rw [List.length_map]; exact hi)⟩
  unfold thr at hb
  obtain ⟨a, ha, rfl⟩ := List.mem_map.mp hb
  exact decide_eq_true (hl a ha)
theorem filt_same {f : Int → Bool} : ∀ {vs : List Value} {xs : List Int} {ys : List Value}, IntsAre vs xs → Paired (fun v y : Value => v = y) (vs.filter fun v => match v with | .int t _ => f t | _ => false) ys → IntsAre ys (xs.filter f)
  | _, _, _, .nil, h => by cases h; exact .nil
  | _, _, ys, .cons n t hi, h => by
    rw [List.filter_cons] at h ⊢
    cases q : f n with
    | true =>
      simp only [q, if_true] at h ⊢
      cases h with
      | cons e h => subst e; exact .cons _ _ (filt_same hi h)
    | false =>
      simp only [q, Bool.false_eq_true, if_false] at h ⊢
      exact filt_same hi h
theorem bools_same {f : Int → Bool} : ∀ {vs : List Value} {xs : List Int} {ys : List Value}, IntsAre vs xs → Paired (fun v y : Value => ∃ n t, v = .int n t ∧ y = .bool (f n)) vs ys → ys = (xs.map f).map Value.bool
  | _, _, _, .nil, h => by cases h; rfl
  | _, _, _, .cons n t hi, h => by
    cases h with
    | cons e h =>
      obtain ⟨n', t', e1, rfl⟩ := e
      cases e1
      rw [bools_same hi h]; rfl
theorem due_of {xs : List Int} {i : Nat} {M : Int} (hm : M ∈ xs.filter fun t => holdsB (thr xs t) i) (hl : ∀ a, a ∈ (xs.filter fun t => holdsB (thr xs t) i) → a ≤ M) : DueAt xs i M :=
  ⟨(List.mem_filter.mp hm).1, (List.mem_filter.mp hm).2, fun a ha hb => hl a (List.mem_filter.mpr ⟨ha, hb⟩)⟩
end Mine
end

section
open PySem PySem.W PySem.W.X PyProof.Rows PySem.Calls
namespace Mine
variable [Inhabited Base]
section
variable {w : World} {A : Around} {s : Shared} {env : Env} {E : Value → Shared → Prop}
/-- a for over a walk, its name a cell -/
theorem for_cell {R : Result → Shared → Prop} {x : Str} {px : Pos} {body : List Stmt} {I c : Addr} {fp wr : List Addr} {n : Nat} {P : Nat → Value → Prop} {St : Nat → Heap → Prop} {v₀ : Option Value}
    (W : Walks PySem.Challenge.rw_qh0048_01.row.prog w A I fp wr n P St) (hk : env.scope.kind = .function) (hx : env.kindOf x = some .cell) (hc : env.cells.lookup x = some c) (hcf : c ∉ fp)
    (J : Nat → Heap → Prop) (hst : St 0 s.heap) (hcell : s.heap.IsCell c v₀) (h0 : J 0 s.heap)
    (turn : ∀ i v h₀ h tk, i < n → P i v → J i h₀ → (∃ v, h₀.IsCell c v) → (∀ b o, b ∉ wr → b ≠ c → h₀.get? b = some o → h.get? b = some o) → St (i + 1) h → h.IsCell c (some v) →
      wpAny (model PySem.Challenge.rw_qh0048_01.row.prog w) A (execs body env) (fun f s' => f = .next ∧ ∃ h' tk', s' = { s with heap := h', toks := tk' } ∧ (∀ b ∈ fp, ∀ o, h.get? b = some o → h'.get? b = some o) ∧ (∃ v, h'.IsCell c v) ∧ J (i + 1) h')
        (fun _ _ => False) { s with heap := h, toks := tk })
    (done : ∀ h₀ h tk, J n h₀ → (∀ b o, b ∉ wr → h₀.get? b = some o → h.get? b = some o) → R (.ok .next) { s with heap := h, toks := tk }) :
    codeAny (model PySem.Challenge.rw_qh0048_01.row.prog w) A (.forLoop (.Name x px) (.ref I) body [] env) R s := by
  have hcw : c ∉ wr := fun q => hcf (W.sub _ q)
  refine codeAny_forLoop (fun k s' => ∃ h tk i, s' = { s with heap := h, toks := tk } ∧ St i h ∧ (∃ v, h.IsCell c v) ∧ J i h ∧ i ≤ n ∧ k = n - i) ?_ n ⟨s.heap, s.toks, 0, rfl, hst, ⟨_, hcell⟩, h0, Nat.zero_le _, rfl⟩
  rintro k s' ⟨h, tk, i, rfl, st, ⟨v1, cc⟩, j, hi, rfl⟩
  by_cases hlt : i < n
  · refine W.item i _ _ _ hlt st fun v h₁ tk₁ hv st₁ hk₁ => ?_
    have cc₁ : h₁.IsCell c v1 := let ⟨o, e, d⟩ := cc; ⟨o, hk₁ _ o hcw e, d⟩
    refine wpAny_assign_Name (wpAny_storeName_cell hk hx hc cc₁ (fun h₂ cc₂ hs₂ => ?_))
    have st₂ : St (i + 1) h₂ := W.frame _ _ _ st₁ fun b hb o e => hs₂.extBut b o (fun z => hcf (z ▸ hb)) e
    refine wpAny_mono (turn i v h h₂ _ hlt hv j ⟨v1, cc⟩ (fun b o hb hb2 e => hs₂.extBut b o hb2 (hk₁ b o hb e)) st₂ cc₂) (fun f s' q => ?_) fun _ _ q => q.elim
    obtain ⟨rfl, h', tk', rfl, kf, cc', j'⟩ := q
    have st' : St (i + 1) h' := W.frame _ _ _ st₂ kf
    exact ⟨n - (i + 1), by lia, h', tk', i + 1, rfl, st', cc', j', hlt, rfl⟩
  · have e : i = n := by lia
    subst e
    refine W.done _ _ _ st fun h₁ tk₁ hk₁ => ?_
    exact wpAny_execs_nil (done h h₁ tk₁ j hk₁)
def cell0 : Obj := { cls := .type "cell", data := .cell none }
theorem new_around {M : Model} {scope : Scope} {globals : Addr} {cl : List (Str × Addr)} {qual : Str} {x : Str} {Q : Env → Shared → Prop} (hn : ∀ n, cellsFrom n scope.names cl = (x, n) :: cl) (hp : ∀ h, pushCells h scope.names = h.push cell0)
    (hQ : Q { scope, locals := s.heap.objs.size, globals, cells := (x, s.heap.objs.size + 1) :: cl, qual, func := none, code := env.code, frame := env.frame, builtins := env.builtins } { s with heap := (s.heap.push { cls := .type "dict", data := .dict #[] }).push cell0 }) :
    wpAny M A (newFunctionEnv scope globals cl [] qual none .none (some env)) Q E s := by
  simp only [newFunctionEnv, Option.isSome_some, if_true]
  refine wpAny_bind (wpAny_alloc ?_)
  refine wpAny_bind (wpAny_layCells _ (fun name kind cells => by cases hkc : kind == NameKind.cell <;> simp [hkc]) _ _ _ _ ?_)
  rw [hn, hp]
  refine wpAny_bind (wpAny_pure (wpAny_pure ?_))
  rw [show ({ s with heap := s.heap.push { cls := .type "dict", data := .dict #[] } } : Shared).heap.objs.size = s.heap.objs.size + 1 from Heap.size_push ..]
  exact hQ
/-- a table of names, each kept with its cell, answers a cell as before -/
theorem kept_cell {f : Str × NameKind → Str × NameKind} (hf : ∀ y, (f y).1 = y.1 ∧ (y.2 = .cell → (f y).2 = .cell)) {x : Str} : ∀ {names : List (Str × NameKind)}, names.lookup x = some .cell → (names.map f).lookup x = some .cell
  | [], e => e
  | y :: r, e => by
    have ey := hf y
    rw [List.map_cons, show f y = (y.1, (f y).2) from Prod.ext ey.1 rfl, List.lookup_cons]
    rw [show y :: r = (y.1, y.2) :: r from rfl, List.lookup_cons] at e
    by_cases q : (x == y.1) = true
    · rw [q] at e ⊢; exact congrArg some (ey.2 (Option.some.inj e))
    · rw [Bool.not_eq_true _ |>.mp q] at e ⊢; exact kept_cell hf e
theorem relab_cell {scope : Scope} {x : Str} (h : scope.names.lookup x = some .cell) : (relabel scope env).names.lookup x = some .cell :=
  kept_cell (fun y => by dsimp only; split <;> exact ⟨rfl, fun e => by first | rfl | exact e⟩) h
/-- what holds at each place of a list, and of one more -/
theorem at_snoc {α : Type} {P : Nat → α → Prop} {vs : List α} {v : α} (h : ∀ j u, vs[j]? = some u → P j u) (hv : P vs.length v) : ∀ j u, (vs ++ [v])[j]? = some u → P j u := by
  intro j u e
  by_cases q : j < vs.length
  · rw [List.getElem?_append_left q] at e; exact h j u e
  · rw [List.getElem?_append_right (Nat.not_lt.mp q)] at e
    obtain ⟨z, rfl⟩ := List.getElem?_eq_some_iff.mp e
    have : j = vs.length := by rw [List.length_singleton] at z; omega
    subst this; simpa using hv
inductive CellOk (w : World) (A : Around) (env : Env) (elt : Expr) (x : Str) (test : Expr) (scope : Scope) (cl : List (Str × Addr)) (p : Value → Bool) (R : Value → Value → Prop) (Q : Value → Shared → Prop) (xv : Value) (s₁ : Shared) : Prop
  | mk (n : Nat) (P : Nat → Value → Prop) (hn : n ≤ sizeLine) (hsrc : SrcOk w A xv s₁ n P)
      (ht : ∀ C c i v s₃ E', P i v → s₃.heap.IsCell c (some v) → Keep s₁.heap s₃.heap →
        wpAny (model PySem.Challenge.rw_qh0048_01.row.prog w) A (isTrue test (compEnvC scope ((x, c) :: cl) C env) (eval test (compEnvC scope ((x, c) :: cl) C env)))
          (fun ok s₄ => ok = p v ∧ Keeps s₃ s₄) E' s₃)
      (he : ∀ C c i v s₃ E', P i v → p v = true → s₃.heap.IsCell c (some v) → Keep s₁.heap s₃.heap →
        wpAny (model PySem.Challenge.rw_qh0048_01.row.prog w) A (eval elt (compEnvC scope ((x, c) :: cl) C env)) (fun y s₄ => R v y ∧ Keeps s₃ s₄) E' s₃)
      (hQ : ∀ D h' tk ys (vs : List Value), s₁.heap.get? D = none → h'.PlainList D ys → vs.length = n → (∀ j v, vs[j]? = some v → P j v) → Paired R (vs.filter p) ys.toList → Keep s₁.heap h' → Q (.ref D) { s₁ with heap := h', toks := tk }) : CellOk w A env elt x test scope cl p R Q xv s₁
/-- a list comprehension with one test, its name a cell -/
theorem comp_cell {elt iter test : Expr} {x : Str} {px : Pos} {scope : Scope} {cl : List (Str × Addr)} {pos : Pos} {Q : Value → Shared → Prop} (p : Value → Bool) (R : Value → Value → Prop)
    (hclos : closureFor scope env = pure cl) (hkind : scope.kind = .function) (hnames : ∀ y ∈ scope.names, y.2 = .local → scope.names.lookup y.1 = some .local) (hx : scope.names.lookup x = some .cell)
    (hn' : ∀ n, cellsFrom n scope.names cl = (x, n) :: cl) (hp' : ∀ h, pushCells h scope.names = h.push cell0)
    (h : wpAny (model PySem.Challenge.rw_qh0048_01.row.prog w) A (eval iter env) (CellOk w A env elt x test scope cl p R Q) E s)
    (hs : ∀ x, foldedSetIterable iter env x = pure x) :
    wpAny (model PySem.Challenge.rw_qh0048_01.row.prog w) A (eval (.ListComp elt [⟨.Name x px, iter, [test], 0⟩] scope pos) env) Q E s := by
  rw [eval_ListComp]
  refine wpAny_comprehension_free (use := none) rfl hs hclos hkind hnames (wpAny_mono h (fun xv s₁ h₁ => ?_) fun _ _ e => e)
  obtain ⟨n, P, hsz, hsrc, ht, he, hQ⟩ := h₁
  refine hsrc _ _ fun I fp wr St h₂ W hst hfp hwr hk hszz => ?_
  refine wpAny_newObj_type (new_around hn' hp' ?_)
  dsimp only
  generalize hD : h₂.objs.size = D at *
  generalize hH1 : h₂.push { cls := .type "list", dict := none, data := .seq ([] : List Value).toArray } = H1 at *
  have sz1 : H1.objs.size = D + 1 := by rw [← hH1, Heap.size_push, hD]
  generalize hC : H1.objs.size = C at *
  generalize hH2 : H1.push { cls := .type "dict", data := .dict #[] } = H2 at *
  have sz2 : H2.objs.size = C + 1 := by rw [← hH2, Heap.size_push, hC]
  have k1 : Keep h₂ H1 := fun b o e => by rw [← hH1]; exact Heap.get?_push_of_some _ e
  have k2 : Keep H1 H2 := fun b o e => by rw [← hH2]; exact Heap.get?_push_of_some _ e
  have k3 : Keep H2 (H2.push cell0) := fun b o e => Heap.get?_push_of_some _ e
  have oD : (H2.push cell0).PlainList D #[] := ⟨0, k3 _ _ (k2 _ _ (by rw [← hH1, ← hD]; exact Heap.get?_push_size _ rfl))⟩
  have oC : (H2.push cell0).get? C = some { cls := .type "dict", data := .dict #[] } := k3 _ _ (by rw [← hH2, ← hC]; exact Heap.get?_push_size _ rfl)
  have oc : (H2.push cell0).get? (C + 1) = some cell0 := by rw [← sz2]; exact Heap.get?_push_size _ rfl
  have nsC : (H2.push cell0).Ns C (fun _ => none) := ⟨_, _, _, oC, rfl, fun e he => by simp at he, fun _ => rfl⟩
  have DC : D ≠ C := by lia
  have Dc : D ≠ C + 1 := by lia
  have Cc : C ≠ C + 1 := by lia
  have fresh : ∀ z, D ≤ z → h₂.get? z = none := fun z hz => by
    cases e : h₂.get? z with
    | none => rfl
    | some o' => exact absurd (hD ▸ Heap.lt_size e : z < D) (Nat.not_lt.mpr hz)
  have nfp : ∀ z, D ≤ z → z ∉ fp := fun z hz hm => absurd (hfp z hm) (Nat.not_lt.mpr hz)
  have nDf : D ∉ fp := nfp D (Nat.le_refl _)
  have nCf : C ∉ fp := nfp C (by lia)
  have ncf : C + 1 ∉ fp := nfp (C + 1) (by lia)
  have old : ∀ {b : Addr} {o : Obj}, s₁.heap.get? b = some o → b ∉ wr ∧ b ≠ D ∧ b ≠ C ∧ b ≠ C + 1 := fun {b o} e => by
    have e2 := hk b o e
    refine ⟨fun hb => (by rw [hwr b hb] at e; cases e), ?_, ?_, ?_⟩ <;> (rintro rfl; rw [fresh _ (by lia)] at e2; cases e2)
  have hst0 : St 0 (H2.push cell0) := W.frame _ _ _ hst fun b _ o e => k3 _ _ (k2 _ _ (k1 _ _ e))
  have loop : ∀ s₃ : Shared, s₃ = { s₁ with heap := H2.push cell0 } →
      codeAny (model PySem.Challenge.rw_qh0048_01.row.prog w) A (.compLoop (.ListComp elt [⟨.Name x px, iter, [test], 0⟩] scope pos) 0 (.ref I) (.ref D) (compEnvC scope ((x, C + 1) :: cl) C env))
        (compPost (model PySem.Challenge.rw_qh0048_01.row.prog w) A E none Q (.ref D) C) s₃ := by
    rintro s₃ rfl
    refine codeAny_compLoop_tests
      (fun k s' => ∃ h' tk ys, ∃ vs : List Value, ∃ v1, s' = { s₁ with heap := h', toks := tk } ∧ St vs.length h' ∧ h'.PlainList D ys ∧ h'.IsCell (C + 1) v1 ∧ h'.Ns C (fun _ => none) ∧ (∀ j v, vs[j]? = some v → P j v) ∧
        Paired R (vs.filter p) ys.toList ∧ vs.length ≤ n ∧ k = n + 1 - vs.length ∧ Keep s₁.heap h') ?_ (n + 1)
      ⟨_, s₁.toks, #[], [], none, rfl, hst0, oD, ⟨_, oc, rfl⟩, nsC, by simp, by simpa using Paired.nil, Nat.zero_le _, rfl, fun b o e => k3 _ _ (k2 _ _ (k1 _ _ (hk b o e)))⟩
    rintro k s' ⟨H, tk, ys, vs, v1, rfl, hst', hacc', cc, ns, hP, hF, hi, rfl, kk⟩
    have hcw : C + 1 ∉ wr := fun q => ncf (W.sub _ q)
    have hCw : C ∉ wr := fun q => nCf (W.sub _ q)
    have hDw : D ∉ wr := fun q => nDf (W.sub _ q)
    by_cases hlt : vs.length < n
    · refine W.item vs.length _ _ _ hlt hst' fun v h₁ tk₁ hPv hst₁ hk₁ => ?_
      have cc₁ : h₁.IsCell (C + 1) v1 := let ⟨o, e, d⟩ := cc; ⟨o, hk₁ _ o hcw e, d⟩
      refine wpAny_assign_Name (wpAny_storeName_cell (env := compEnvC scope ((x, C + 1) :: cl) C env) hkind (relab_cell hx) (by simp [compEnvC]) cc₁ (fun h₃ cc₃ hs₃ => ?_))
      have st₃ : St (vs.length + 1) h₃ := W.frame _ _ _ hst₁ fun b hb o e => hs₃.extBut b o (fun z => ncf (z ▸ hb)) e
      have kk₃ : Keep s₁.heap h₃ := fun b o e => hs₃.extBut b o (old e).2.2.2 (hk₁ b o (old e).1 (kk b o e))
      have ns₃ : h₃.Ns C (fun _ => none) := (ns.at' fun o e => hk₁ _ o hCw e).sameBut hs₃ Cc
      have hacc₃ : h₃.PlainList D ys := hacc'.at fun o e => hs₃.extBut D o Dc (hk₁ D o hDw e)
      refine wpAny_tests_one (wpAny_mono (ht C (C + 1) vs.length v ⟨h₃, _, _, _, _⟩ _ hPv cc₃ kk₃) (fun ok s₄ h₄ => ?_) fun _ _ e => e)
      obtain ⟨rfl, h₄, tk₄, rfl, hk₄⟩ := h₄
      have hP' := at_snoc hP hPv
      have st₄ : St (vs.length + 1) h₄ := W.frame _ _ _ st₃ fun b _ o e => hk₄ b o e
      have hacc₄ : h₄.PlainList D ys := hacc₃.at fun o e => hk₄ _ o e
      cases hpv : p v with
      | false =>
        rw [if_neg Bool.false_ne_true]
        refine ⟨n + 1 - (vs.length + 1), by lia, h₄, tk₄, ys, vs ++ [v], _, rfl, by simpa using st₄, hacc₄, cc₃.keeps hk₄, ns₃.keeps hk₄, hP', ?_, by rw [List.length_append, List.length_singleton]; exact hlt, by rw [List.length_append, List.length_singleton], Keep.trans kk₃ hk₄⟩
        rw [List.filter_append]; simpa [hpv] using hF
      | true =>
        rw [if_pos rfl]
        refine wpAny_mono (he C (C + 1) vs.length v ⟨h₄, _, _, _, _⟩ _ hPv hpv (cc₃.keeps hk₄) (Keep.trans kk₃ hk₄)) (fun y s₅ h₅ => ?_) fun _ _ e => e
        obtain ⟨hR, h₅, tk₅, rfl, hk₅⟩ := h₅
        have hys : ys.size ≤ sizeLine := by
          have e1 := hF.length
          have e2 := vs.length_filter_le p
          have e4 : ys.toList.length = ys.size := by simp
          lia
        refine wpAny_list_append_plain (hsz := hys) (hacc₄.at fun o e => hk₅ _ o e) fun h₆ hl₆ hs₆ => ?_
        refine ⟨n + 1 - (vs.length + 1), by lia, h₆, tk₅, ys.push y, vs ++ [v], _, rfl, ?_, hl₆, ((cc₃.keeps hk₄).keeps hk₅).sameBut hs₆ (Ne.symm Dc), ((ns₃.keeps hk₄).keeps hk₅).sameBut hs₆ (Ne.symm DC), hP', ?_, by rw [List.length_append, List.length_singleton]; exact hlt, by rw [List.length_append, List.length_singleton], fun b o e => hs₆.extBut b o (old e).2.1 (hk₅ _ _ (hk₄ _ _ (kk₃ b o e)))⟩
        · have := W.frame _ _ h₆ st₄ fun b hb o e => hs₆.extBut b o (fun h => nDf (h ▸ hb)) (hk₅ b o e)
          simpa using this
        · rw [List.filter_append]; simpa [hpv] using Paired.snoc hF hR
    · have hin : vs.length = n := by lia
      refine W.done _ _ _ (hin ▸ hst') fun h₁ tk₁ hk₁ => ?_
      refine ⟨_, ns.at' fun o e => hk₁ _ o hCw e, fun h₄ hs₄ => ?_⟩
      refine hQ D h₄ tk₁ ys vs ?_ (hacc'.at fun o e => hs₄.extBut D o DC (hk₁ D o hDw e)) hin hP hF fun b o e => hs₄.extBut b o (old e).2.2.1 (hk₁ b o (old e).1 (kk b o e))
      cases q : s₁.heap.get? D with
      | none => rfl
      | some o => have := hk _ _ q; rw [fresh D (Nat.le_refl _)] at this; cases this
  exact codeAny_compStart_list (loop _ rfl) (W.self 0 _ _ _ hst0 (loop _ rfl))
end
end Mine
end

section
open PySem PySem.W PySem.W.X PyProof.Rows PySem.Calls
namespace Mine
variable [Inhabited Base]
section
variable {w : World} {A : Around} {E Q : Value → Shared → Prop} {s : Shared}
theorem rest_spec {r : Addr} {vs : List Value} {xs : List Int} (X : Cx w s.heap) (hA : OkA A 620 260) (hl : s.heap.IsList r vs.toArray) (hi : IntsAre vs xs) (h2 : 2 ≤ xs.length) (h100 : xs.length ≤ 100)
    (hQ : ∀ D h' tk ys, Keep s.heap h' → s.heap.get? D = none → h'.PlainList D ys → ys.size = xs.length → (∀ i v, ys[i]? = some v → ∃ M t, v = .int M t ∧ DueAt xs i M) → Q (.ref D) { s with heap := h', toks := tk }) :
    wpAny (model PySem.Challenge.rw_qh0048_01.row.prog w) A (call (.ref 166) [.ref r]) Q E s := by
  refine wpAny_call (call_cells_ret (Nat.lt_of_le_of_lt hA.depth (Nat.le_of_ble_eq_true rfl)) (X.k 166 _ rfl) rfl X.lim (codeRec_of X.k (by kernel_rfl)) (binds := [(Str.ofString "samples", .ref r)]) (by kernel_rfl) ?hk fun h₁ tk F Cl => ?_)
  case hk =>
    intro x hx
    rw [List.mem_singleton.mp hx]; exact .inr ⟨rfl, rfl⟩
  have hlen : vs.length = xs.length := hi.length
  have k₁ : Keep s.heap h₁ := F.keep
  have hns := F.ns
  have c1 : h₁.IsCell (s.heap.objs.size + 1) (some (.ref r)) := Cl.cell (Str.ofString "samples") _ rfl
  have c2 : h₁.IsCell (s.heap.objs.size + 2) none := Cl.cell (Str.ofString "i") _ rfl
  clear F Cl
  have fr : ∀ k, s.heap.get? (s.heap.objs.size + k) = none := fun k => by
    cases e : s.heap.get? (s.heap.objs.size + k) with
    | none => rfl
    | some o => exact absurd (Heap.lt_size e) (Nat.not_lt.mpr (Nat.le_add_right _ _))
  have nn : ∀ i j : Nat, i ≠ j → s.heap.objs.size + i ≠ s.heap.objs.size + j := fun i j n z => n (Nat.add_left_cancel z)
  have n0 : ∀ (k : Nat) {b : Addr} {o : Obj}, s.heap.get? b = some o → b ≠ s.heap.objs.size + k := fun k {b o} e z => by rw [z, fr k] at e; cases e
  generalize hL : s.heap.objs.size = L at *
  refine wpAny_execs_cons ?_
  refine wpAny_Assign_Name ?_
  refine e_eq (arm_eval_List _ _ _) ?_
  refine e_at ?_
  refine e_bindp () rfl ?_
  refine e_bindp [] rfl ?_
  refine wpAny_newList ?_ (by rw [sizeLine_eq]; exact Nat.zero_le _)
  have kp : ∀ (h : Heap) (o : Obj), Keep h (h.push o) := fun h o' b o e => Heap.get?_push_of_some _ e
  have fD : h₁.get? h₁.objs.size = none := get_size_none _
  generalize hD : h₁.objs.size = D at *
  have oD : (h₁.push (seqObj "list" #[] 0)).get? D = some (seqObj "list" #[] 0) := by rw [← hD]; exact Heap.get?_push_size _ rfl
  have k₂ := kp h₁ (seqObj "list" #[] 0)
  generalize hH : h₁.push (seqObj "list" #[] 0) = H at *
  refine wpAny_storeName_local (by kernel_rfl) (hns.keeps k₂) (fun h₂ ns₂ hs₂ => ?_) rfl
  refine norm_sa (h := h₂) (g := s.gens) (d := s.drawn) (o := s.os) ?_
  intro tkn
  replace hs₂ : Heap.SameBut L H h₂ := hs₂
  replace ns₂ : h₂.Ns L (fun z => if z = Str.ofString "due" then some (.ref D) else _) := ns₂
  have exN : ∀ {a : Addr} {o : Obj}, h₁.get? a = some o → a ≠ D := fun {a o} e z => by rw [z, fD] at e; cases e
  have nDL : D ≠ L := by obtain ⟨o, _, _, e, _⟩ := hns; exact fun z => exN e z.symm
  have nD1 : D ≠ L + 1 := by obtain ⟨o, e, _⟩ := c1; exact fun z => exN e z.symm
  have nD2 : D ≠ L + 2 := by obtain ⟨o, e, _⟩ := c2; exact fun z => exN e z.symm
  have kk₂ : Keep s.heap h₂ := fun b o e => hs₂.extBut b o (n0 0 e) (k₂ _ _ (k₁ b o e))
  have c1 := (c1.keeps k₂).sameBut hs₂ (nn 1 0 (by decide))
  have c2 := (c2.keeps k₂).sameBut hs₂ (nn 2 0 (by decide))
  have oD₂ : h₂.PlainList D #[] := ⟨0, hs₂.extBut _ _ nDL oD⟩
  have X₂ : Cx w h₂ := X.keeps kk₂
  have hl₂ : h₂.IsList r vs.toArray := let ⟨o, e, q⟩ := hl; ⟨o, kk₂ _ _ e, q⟩
  refine wpAny_execs_cons ?_
  refine wpAny_For (wpAny_Call_NameR (Mine.nm_bi X₂ (v := .type "range") (by kernel_rfl) (by kernel_rfl) (by decide) ?_)) (fun _ => rfl)
  refine PyProof.Rows.callWith_type1 ?_
  refine spliced_more (wpAny_Call_NameR (Mine.nm_bi X₂ (v := .builtin "len") (by kernel_rfl) (by kernel_rfl) (by decide) ?_))
  refine PyProof.Rows.callWith_builtin1 ?_
  refine spliced_more (Mine.nm_cell (c := L + 1) rfl c1 ?_)
  refine spliced_none ?_
  refine len_list hl₂ (by simp; lia) ?_
  refine spliced_none ?_
  have esz : ((vs.toArray.size : Nat) : Int) = (xs.length : Nat) := by simp [hlen]
  rw [esz]
  refine range1_rule fun R h₃ tk₃ ta tb tc k₃ fR hR => ?_
  have hsize : Builtin.Range.rangeSize 0 ((xs.length : Nat) : Int) 1 = (xs.length : Nat) := by rw [rangeSize_one]; split <;> lia
  refine range3_rule hR (small_one (by decide) (by decide) (by lia) (by lia)) hsize fun I h₄ k₄ fI hI => ?_
  have k₂₄ : Keep h₂ h₄ := Keep.trans k₃ k₄
  have exI : ∀ {a : Addr} {o : Obj}, h₂.get? a = some o → a ≠ I := fun {a o} e z => by rw [z] at e; cases fI.symm.trans (k₃ _ _ e)
  have nI1 : I ≠ L + 1 := by obtain ⟨o, e, _⟩ := c1; exact fun z => exI e z.symm
  have nI2 : I ≠ L + 2 := by obtain ⟨o, e, _⟩ := c2; exact fun z => exI e z.symm
  have nIL : I ≠ L := by obtain ⟨o, _, _, e, _⟩ := ns₂; exact fun z => exI e z.symm
  have nID : I ≠ D := by obtain ⟨n, e⟩ := oD₂; exact fun z => exI e z.symm
  have nsI : ∀ {b : Addr} {o : Obj}, s.heap.get? b = some o → b ≠ I := fun e => exI (kk₂ _ _ e)
  refine norm_sc (h := h₄) (g := s.gens) (d := s.drawn) (o := s.os) ?_
  intro tkn
  refine for_cell (c := L + 2) (Walks.range ?hh I 0 1 xs.length) rfl (by kernel_rfl) rfl ?hcf (fun k h => Keep s.heap h ∧ (∃ m : Str → Option Value, h.Ns L m ∧ m (Str.ofString "due") = some (.ref D)) ∧ h.IsCell (L + 1) (some (.ref r)) ∧ ∃ ys, h.PlainList D ys ∧ ys.size = k ∧ ∀ i v, ys[i]? = some v → ∃ M t, v = .int M t ∧ DueAt xs i M) (by simpa using hI) (c2.keeps k₂₄) ?h0 ?turn ?done
  case hh => exact hA.handled
  case hcf => exact fun z => nI2 (List.mem_singleton.mp z).symm
  case h0 => exact ⟨kk₂.trans k₂₄, ⟨_, ns₂.keeps k₂₄, if_pos rfl⟩, c1.keeps k₂₄, #[], oD₂.at fun o e => k₂₄ _ _ e, rfl, fun i v e => by simp at e⟩
  case turn =>
    rintro i v h₀ h tk' hi' ⟨ti, rfl⟩ ⟨kh, ⟨m, nsL, hm⟩, cc1, ys, oys, hys, hdue⟩ cc2 rel st cI
    refine norm_sa (h := h) (g := s.gens) (d := s.drawn) (o := s.os) ?_
    intro tkn
    have rel' : ∀ b o, b ≠ I → b ≠ L + 2 → h₀.get? b = some o → h.get? b = some o := fun b o hb hb2 e => rel b o (fun z => hb (List.mem_singleton.mp z)) hb2 e
    have kh' : Keep s.heap h := fun b o e => rel' b o (nsI e) (n0 2 e) (kh b o e)
    have nsLh : h.Ns L m := nsL.at' fun o e => rel' _ o (Ne.symm nIL) (nn 0 2 (by decide)) e
    have cc1h : h.IsCell (L + 1) (some (.ref r)) := let ⟨o, e, d⟩ := cc1; ⟨o, rel' _ _ (Ne.symm nI1) (nn 1 2 (by decide)) e, d⟩
    have oysh : h.PlainList D ys := oys.at fun o e => rel' _ o (Ne.symm nID) nD2 e
    have Xh : Cx w h := X.keeps kh'
    have hlh : h.IsList r vs.toArray := let ⟨o, e, q⟩ := hl; ⟨o, kh' _ _ e, q⟩
    rw [Int.zero_add, Int.mul_one] at cI
    refine wpAny_execs_cons ?_
    refine wpAny_Expr ?_
    refine PyProof.Rows.MethodCall_ (Mine.nm_loc nsLh (v := .ref D) hm ?_)
    obtain ⟨nD', oD'⟩ := id oysh
    refine getMethod_list_append oD' rfl rfl ?_
    refine PyProof.Rows.callWith_method1 ?_
    refine spliced_more (wpAny_Call_NameR (Mine.nm_bi Xh (v := .builtin "max") (by kernel_rfl) (by kernel_rfl) (by decide) ?_))
    refine PyProof.Rows.callWith_builtin1 ?_
    refine spliced_more (comp_cell (cl := [(Str.ofString "samples", L + 1), (Str.ofString "i", L + 2)]) (fun v => match v with | .int t _ => holdsB (thr xs t) i | _ => false) (fun v y => v = y) (by kernel_rfl) rfl (by decide) (by kernel_rfl) (fun _ => rfl) (fun _ => rfl) ?_ (fun _ => rfl))
    refine Mine.nm_cell (c := L + 1) rfl cc1h ?_
    refine ⟨vs.toArray.size, fun j v => vs.toArray[j]? = some v, by rw [sizeLine_eq]; simp; lia, Mine.src_list (A := A.deeper _) hA.handled hlh, ?test, ?elt, ?fin⟩
    case elt =>
      intro C c j v s₃ E' hj hp cv k₃
      obtain ⟨n, t, rfl⟩ := ints_mem hi (List.mem_of_getElem? (by simpa using hj))
      refine Mine.nm_cell (c := c) rfl cv ?_
      exact ⟨rfl, _, _, rfl, fun _ _ e => e⟩
    case test =>
      intro C c j v s₃ E' hj cv k₃
      obtain ⟨n, t, rfl⟩ := ints_mem hi (List.mem_of_getElem? (by simpa using hj))
      have X₃ : Cx w s₃.heap := Xh.keeps k₃
      have kk₃ : Keep s.heap s₃.heap := fun b o e => k₃ _ _ (kh' b o e)
      have hl₃ : s₃.heap.IsList r vs.toArray := let ⟨o, e, q⟩ := hl; ⟨o, kk₃ _ _ e, q⟩
      have cs₃ := cc1h.keeps k₃
      have ci₃ := cI.keeps k₃
      refine PyProof.Rows.isTrue_plain (call_fn (a := 161) X₃ (by kernel_rfl) (by kernel_rfl) ?_ (by kernel_rfl) (by kernel_rfl) (by kernel_rfl) (by kernel_rfl))
      refine spliced_more (comp_rule (cl := [(Str.ofString "t", c)]) (fun _ => true) (fun v y => ∃ n' t', v = .int n' t' ∧ y = .bool (decide (n' ≥ n))) (by kernel_rfl) (by decide) rfl (by decide) rfl ?_ (fun _ => rfl))
      refine Mine.nm_cell (c := L + 1) rfl cs₃ ?_
      refine ⟨vs.toArray.size, fun j v => vs.toArray[j]? = some v, by rw [sizeLine_eq]; simp; lia, Mine.src_list (A := A.deeper _) hA.handled hl₃, ?t4, ?e4, ?f4⟩
      case t4 =>
        intro C' j' v s₅ m₅ E' hC hj hn₅ hm₅ k₅
        exact wpAny_tests_nil ⟨rfl, _, _, rfl, fun _ _ e => e⟩
      case e4 =>
        intro C' j' v s₅ m₅ E' hC hj _ hn₅ hm₅ k₅
        obtain ⟨n', t', rfl⟩ := ints_mem hi (List.mem_of_getElem? (by simpa using hj))
        refine wpAny_Compare1 (Mine.nm_loc hn₅ hm₅ (Mine.nm_cell (c := c) rfl (cv.keeps k₅) (PySem.P.ge_int ?_)))
        exact ⟨⟨_, _, rfl, rfl⟩, _, _, rfl, fun _ _ e => e⟩
      case f4 =>
        intro D6 h₆ tk₆ ys₆ vs₆ f6 o6 l6 P6 F6 k6
        have ev : vs₆ = vs := by
          refine List.ext_getElem? fun j => ?_
          by_cases q : j < vs₆.length
          · rw [List.getElem?_eq_getElem q]
            have := P6 j _ (List.getElem?_eq_getElem q)
            simpa using this.symm
          · rw [List.getElem?_eq_none (by lia), List.getElem?_eq_none (by simp at l6; lia)]
        rw [List.filter_eq_self.mpr (fun _ _ => rfl), ev] at F6
        have eb := bools_same (f := fun n' => decide (n' ≥ n)) hi F6
        have o6' : h₆.PlainList D6 ((thr xs n).map Value.bool).toArray := by
          have : ys₆ = ((thr xs n).map Value.bool).toArray := by rw [← Array.toArray_toList (xs := ys₆), eb]; rfl
          rw [← this]; exact o6
        refine spliced_more (Mine.nm_cell (c := L + 2) rfl (ci₃.keeps k6) ?_)
        have X₆ : Cx w h₆ := X₃.keeps k6
        refine spliced_none ⟨X₆.k, ?_⟩
        refine holds_spec (s := ⟨h₆, _, _, _, _⟩) X₆ (hA.deeper.mono (Nat.le_of_ble_eq_true rfl) (Nat.le_of_ble_eq_true rfl)) o6' (by unfold thr; rw [List.length_map]; lia) (by unfold thr; rw [List.length_map]; lia) (by unfold thr; rw [List.length_map]; lia) fun h₇ tk₇ k7 => ?_
        exact wpAny_truthy_bool ⟨rfl, h₇, _, rfl, fun b o e => k7 _ _ (k6 _ _ e)⟩
    case fin =>
      intro D3 h₅ tk₅ ys₅ vs₅ f5 o5 l5 P5 F5 k5
      have ev : vs₅ = vs := by
        refine List.ext_getElem? fun j => ?_
        by_cases q : j < vs₅.length
        · rw [List.getElem?_eq_getElem q]
          have := P5 j _ (List.getElem?_eq_getElem q)
          simpa using this.symm
        · rw [List.getElem?_eq_none (by lia), List.getElem?_eq_none (by simp at l5; lia)]
      rw [ev] at F5
      have his := filt_same (f := fun t => holdsB (thr xs t) i) hi F5
      refine spliced_none ?_
      refine max_rule (A := A.deeper _) hA.handled (vs := ys₅.toList) o5.isList his (due_ex hi') ?_
      intro h₆ M tM tk₆ k6 hM hMl
      have kM : Keep h h₆ := Keep.trans k5 k6
      refine spliced_none ?_
      refine wpAny_list_append_plain (hsz := by rw [hys, sizeLine_eq]; lia) (oysh.at fun o e => kM _ _ e) fun h₇ o7 hs7 => ?_
      refine wpAny_execs_nil ⟨rfl, h₇, _, rfl, fun b hb o e => ?_, ⟨_, (cI.keeps kM).sameBut hs7 (Ne.symm nD2)⟩, fun b o e => ?_, ⟨m, (nsLh.keeps kM).sameBut hs7 (Ne.symm nDL), hm⟩, (cc1h.keeps kM).sameBut hs7 (Ne.symm nD1), ys.push (.int M tM), o7, by rw [Array.size_push, hys], fun j v e => ?_⟩
      · rw [List.mem_singleton.mp hb] at e ⊢
        exact hs7.extBut I o nID (kM _ _ e)
      · exact hs7.extBut b o (fun z => by rw [z] at e; rw [k₁ _ _ e] at fD; cases fD) (kM _ _ (kh' b o e))
      · rw [Array.getElem?_push] at e
        split at e
        · rename_i q; cases e; rw [q, hys]; exact ⟨M, tM, rfl, due_of hM hMl⟩
        · exact hdue j v e
  case done =>
    rintro h₀ h tk' ⟨kh, ⟨m, nsL, hm⟩, cc1, ys, oys, hys, hdue⟩ rel
    refine norm_sa (h := h) (g := s.gens) (d := s.drawn) (o := s.os) ?_
    intro tkn
    refine wpAny_execs_cons ?_
    refine e_eq (arm_exec_Return _ _ _) ?_
    refine e_at ?_
    refine e_bindp () rfl ?_
    refine e_bind ?_
    have rel' : ∀ b o, b ≠ I → h₀.get? b = some o → h.get? b = some o := fun b o hb e => rel b o (fun z => hb (List.mem_singleton.mp z)) e
    refine Mine.nm_loc (nsL.at' fun o e => rel' _ o (Ne.symm nIL) e) (v := .ref D) hm ?_
    refine e_pure ?_
    exact hQ D h _ ys (fun b o e => rel' b o (nsI e) (kh b o e)) (al_of k₁ _ fD) (oys.at fun o e => rel' _ o (Ne.symm nID) e) hys hdue
end
end Mine
end

section
open PySem PySem.W PySem.W.X PyProof.Rows PySem.Calls
namespace Mine
/-- the builtins of which `exported` asks, as ids -/
def askedIds : List String := ["bytearray.__contains__", "bytearray.__mod__", "bytearray.__rmod__", "_struct.pack_into.held", "bytearray.find.held"] ++ Builtin.Bytes.decodersThatHold
def clr (c : Code) : Bool := match c with | .builtin id _ => !(askedIds.contains id) | _ => true
def Clr (l : List (Code × Pos)) : Prop := ∀ x ∈ l, clr x.1 = true
theorem Clr.cons {c : Code} {p : Pos} {l : List (Code × Pos)} (h : clr c = true) (hl : Clr l) : Clr ((c, p) :: l) := by
  intro x hx
  rcases List.mem_cons.mp hx with rfl | hx
  · exact h
  · exact hl x hx
/-- `wpAny`, at the stacks that bear none of the asked builtins -/
def wpN {α : Type} (M : Model) (A : Around) (t : Sem α) (Q : α → Shared → Prop) (E : Value → Shared → Prop) (s : Shared) : Prop :=
  ∀ Γ p, Γ.In A → clr Γ.code = true → Clr Γ.below → Sem.wp M Γ t (fun a _ s' => Q a s') (fun e _ s' => E e s') p s
def codeN (M : Model) (A : Around) (c : Code) (R : Result → Shared → Prop) (s : Shared) : Prop :=
  ∀ Γ p, Γ.code = c → Γ.Below A → Clr Γ.below → wpCode M Γ R p s
section
variable {α β : Type} {M : Model} {A : Around} {E : Value → Shared → Prop} {s : Shared} {env : Env}
theorem wpN.of {t : Sem α} {Q : α → Shared → Prop} (h : wpAny M A t Q E s) : wpN M A t Q E s := fun Γ p hΓ _ _ => h Γ p hΓ
theorem wpN_mono {t : Sem α} {Q Q' : α → Shared → Prop} {E' : Value → Shared → Prop} (h : wpN M A t Q E s) (hQ : ∀ a s, Q a s → Q' a s) (hE : ∀ e s, E e s → E' e s) : wpN M A t Q' E' s :=
  fun Γ p hΓ h1 h2 => Sem.wp_mono M Γ t (fun a _ s => hQ a s) (fun e _ s => hE e s) p s (h Γ p hΓ h1 h2)
theorem wpN_pure {a : α} {Q : α → Shared → Prop} (h : Q a s) : wpN M A (pure a) Q E s := .of (wpAny_pure h)
theorem wpN_bind {m : Sem α} {f : α → Sem β} {Q : β → Shared → Prop} (h : wpN M A m (fun a s' => wpN M A (f a) Q E s') E s) : wpN M A (m >>= f) Q E s :=
  fun Γ p hΓ h1 h2 => by
    rw [Sem.wp_bind']
    exact Sem.wp_mono M Γ m (fun a p' s' h' => h' Γ p' hΓ h1 h2) (fun _ _ _ h' => h') p s (h Γ p hΓ h1 h2)
theorem wpN_bindA {m : Sem α} {f : α → Sem β} {Q : β → Shared → Prop} (h : wpAny M A m (fun a s' => wpN M A (f a) Q E s') E s) : wpN M A (m >>= f) Q E s := wpN_bind (.of h)
theorem wpN_holding {vs : List Value} {m : Sem α} {Q : α → Shared → Prop} (h : wpN M A m Q E s) : wpN M A (holding vs m) Q E s :=
  fun Γ p hΓ h1 h2 => by rw [Sem.wp_holding]; exact h Γ p hΓ h1 h2
theorem wpN_keep {vs : List Value} {m : Sem α} {Q : α → Shared → Prop} (h : wpN M A m Q E s) : wpN M A (m.keep vs) Q E s :=
  fun Γ p hΓ h1 h2 => by rw [Sem.wp_keep]; exact h Γ p hΓ h1 h2
theorem wpN_call {f : Value} {pos : List Value} {kw : List (Str × Value)} {Q : Value → Shared → Prop}
    (hc : codeN M A (.call f ⟨pos, kw⟩) (fun r s' => match r with | .ok (.ret v) => Q v s' | .ok _ => False | .error e => E e s') s) :
    wpN M A (call f pos kw) Q E s := fun Γ p hΓ h1 h2 => by
  rw [show call f pos kw = runValue (.call f ⟨pos, kw⟩) from rfl, Sem.wp_runValue]
  exact hc _ p rfl (hΓ.enter _ none p (by intro x; cases x)) (Clr.cons h1 h2)
theorem codeN_of_tree {c : Code} {R : Result → Shared → Prop} (hcl : clr c = true)
    (h : wpN M (A.under c) (M.den c) (fun fin s' => match fin with | .done f => R (.ok f) s' | .again c' => c'.quiet = true ∧ codeN M A c' R s')
      (fun e s' => R (.error e) s') s) : codeN M A c R s := fun Γ p hc hΓ h2 => by
  rw [wpCode_iff_wp, hc]
  refine Sem.wp_mono M Γ _ (fun fin p' s' h' => ?_) (fun _ _ _ h' => h') p s (h Γ p (hc ▸ hΓ.in) (hc ▸ hcl) h2)
  cases fin with
  | done f => exact h'
  | again c' => exact ⟨h'.1, h'.2 (Γ.goto c') p' rfl (hΓ.goto c') h2⟩
theorem codeN_of_any {c : Code} {R : Result → Shared → Prop} (h : codeAny M A c R s) : codeN M A c R s := fun Γ p hc hΓ _ => h Γ p hc hΓ
theorem wpN_execs_cons {st rest} {Q : Flow → Shared → Prop}
    (h : wpN M A (exec st env) (fun f s' => match f with | .next => wpN M A (execs rest env) Q E s' | f => Q f s') E s) :
    wpN M A (execs (st :: rest) env) Q E s := fun Γ p hΓ h1 h2 => by
  rw [execs_cons, Sem.wp_bind']
  refine Sem.wp_mono M Γ _ (fun f p' s' h' => ?_) (fun _ _ _ h' => h') _ _ (h Γ p hΓ h1 h2)
  cases f <;> first | exact h' Γ p' hΓ h1 h2 | exact h'
theorem wpN_Assign_Name {x : Str} {px : Pos} {value : Expr} {pos : Pos} {Q : Flow → Shared → Prop} (h : wpN M A (eval value env) (fun v => wpAny M A (storeName env x v) (fun _ => Q .next) E) E s) (plain : swapsWith value (some (.Name x px)) pos.line env = pure false := by rfl) :
    wpN M A (exec (.Assign [.Name x px] value pos) env) Q E s := by
  rw [exec_Assign_Name env x px value pos plain]
  exact wpN_bindA (wpAny_standAt (wpN_bind (wpN_mono h (fun _ _ k => wpN_bindA (wpAny_standAt (.of (wpAny_bind (wpAny_bindName (wpAny_mono k (fun _ _ => wpAny_pure) fun _ _ => id)))))) fun _ _ => id)))
theorem wpN_Return_some {e pos} {Q : Flow → Shared → Prop} (h : wpN M A (eval e env) (fun v => Q (.ret v)) E s) :
    wpN M A (exec (.Return (some e) pos) env) Q E s := fun Γ p hΓ h1 h2 => by
  simp only [exec_Return_some, Sem.wp_bind', Sem.wp_cmd_standAt, Sem.wp_pure']; exact h Γ _ hΓ h1 h2
theorem wpN_Compare1 {l : Expr} {op : CmpOp} {r : Expr} {pos : Pos} {Q : Value → Shared → Prop} (h : wpN M A (eval l env) (fun a => wpAny M A (eval r env) (fun b => wpAny M A (compareOp op a b) Q E) E) E s) (plain : behindInMarks op r = false := by with_unfolding_all rfl) :
    wpN M A (eval (.Compare l [op] [r] pos) env) Q E s := by
  rw [eval_Compare1, markedBehindIn_of_false plain]
  exact wpN_bind (wpN_mono h (fun _ _ k => .of (wpAny_bind (wpAny_holding (wpAny_mono k (fun _ _ k => wpAny_bind (wpAny_standAt (wpAny_operating k))) fun _ _ => id)))) fun _ _ => id)
theorem wpN_Call_NameR {id : Str} {p pos : Pos} {args : List Expr} {Q : Value → Shared → Prop}
    (h : wpAny M A (eval (.Name id p) env) (fun f s₁ => wpN M A (callWith pos f [] (backTo pos (starEach args env)) []) Q E s₁) E s) :
    wpN M A (eval (.Call (.Name id p) args [] pos) env) Q E s := by
  show wpN M A (do callWith pos (← eval (.Name id p) env) [] (backTo pos (starEach args env)) (backToKw pos (keywordEach [] env))) Q E s
  exact wpN_bindA h
theorem splN_cons {x : Sem Value} {rest : List (Bool × Sem Value)} {Q : List Value → Shared → Prop}
    (h : wpN M A x (fun v s₁ => wpN M A (spliced rest) (fun vs s₂ => Q (v :: vs) s₂) E s₁) E s) : wpN M A (spliced ((false, x) :: rest)) Q E s := by
  rw [spliced]
  refine wpN_bind (wpN_mono h (fun v s₁ h₁ => ?_) fun _ _ x => x)
  simp only [Bool.false_eq_true, if_false]
  exact wpN_bind (wpN_pure (wpN_bind (wpN_holding (wpN_mono h₁ (fun vs s₂ h₂ => wpN_pure h₂) fun _ _ x => x))))
theorem splN_more {e : Expr} {rest : List Expr} {pos : Pos} {Q : List Value → Shared → Prop}
    (h : wpN M A (eval e env) (fun v s₁ => wpN M A (spliced (backTo pos (starEach rest env))) (fun vs s₂ => Q (v :: vs) s₂) E s₁) E s)
    (he : starEach (e :: rest) env = (false, eval e env) :: starEach rest env := by rfl) : wpN M A (spliced (backTo pos (starEach (e :: rest) env))) Q E s := by
  rw [he]; exact splN_cons h
theorem splN_none {pos : Pos} {Q : List Value → Shared → Prop} (h : Q [] s) : wpN M A (spliced (backTo pos (starEach [] env))) Q E s := .of (PyProof.Rows.spliced_none h)
theorem argsN_plain {f : Value} {x : Sem Value} {rest : List (Bool × Sem Value)} {Q : Args → Shared → Prop}
    (h : wpN M A (spliced ((false, x) :: rest)) (fun vs s' => Q ⟨vs, []⟩ s') E s) : wpN M A (evalArgs f true ((false, x) :: rest) []) Q E s := by
  unfold evalArgs
  show wpN M A (spliced ((false, x) :: rest) >>= _) Q E s
  refine wpN_bind (wpN_mono h (fun vs s' h' => ?_) fun _ _ x => x)
  refine wpN_holding ?_
  exact wpN_bind (wpN_pure (wpN_bind (wpN_pure (wpN_pure h'))))
theorem tailN {t : Sem Value} {Q : Value → Shared → Prop} (ht : wpN M A t Q E s) : wpN M A (t >>= fun r => holding [r] point >>= fun _ => pure r) Q E s :=
  wpN_bind (wpN_mono ht (fun _ _ hr => .of (wpAny_bind (wpAny_holding (wpAny_point (wpAny_pure hr))))) fun _ _ x => x)
theorem withN_function {pos : Pos} {a : Addr} {o : Obj} {fd : FuncData} {args : List (Bool × Sem Value)} {Q : Value → Shared → Prop}
    (h : wpN M A (evalArgs (.ref a) true args []) (fun x s₁ => (s₁.heap.get? a = some o ∧ o.data = .func fd) ∧ wpN M A (call (.ref a) x.pos x.kw) Q E s₁) E s) :
    wpN M A (callWith pos (.ref a) [] args []) Q E s := by
  unfold callWith
  refine wpN_bind (wpN_holding (wpN_mono h (fun x s₁ h₁ => wpN_bindA (wpAny_standAt ?_)) fun _ _ x => x))
  cases hs : args.any (·.1) <;> simp only [List.any_nil, Bool.or_false] <;>
    refine wpN_bindA (m := keeperOf (.ref a)) ?_ <;> unfold keeperOf <;>
    refine wpAny_bind (wpAny_load h₁.1.1 ?_) <;> rw [h₁.1.2] <;> refine wpAny_pure ?_
  · show wpN M A (if _ then _ else _) Q E s₁
    split
    · exact tailN h₁.2
    · exact tailN (by unfold callMarked; exact wpN_keep h₁.2)
  · exact tailN (by unfold callMarked; exact wpN_keep h₁.2)
theorem withN_def {pos : Pos} {f : Addr} {o : Obj} {fd : FuncData} {e : Expr} {rest : List Expr} {Q : Value → Shared → Prop} (hdat : o.data = .func fd)
    (h : wpN M A (spliced (backTo pos (starEach (e :: rest) env))) (fun vs s₁ => s₁.heap.get? f = some o ∧ wpN M A (call (.ref f) vs) Q E s₁) E s)
    (he : starEach (e :: rest) env = (false, eval e env) :: starEach rest env := by rfl) :
    wpN M A (callWith pos (.ref f) [] (backTo pos (starEach (e :: rest) env)) []) Q E s := by
  rw [he] at h ⊢
  exact withN_function (o := o) (fd := fd) (argsN_plain (wpN_mono h (fun vs s₁ h₁ => ⟨⟨h₁.1, hdat⟩, h₁.2⟩) fun _ _ x => x))
theorem withN_typ {pos : Pos} {T : String} {args : List (Bool × Sem Value)} {Q : Value → Shared → Prop} (hplain : args.any (·.1) = false)
    (h : wpN M A (evalArgs (.type T) true args []) (fun a s₁ => wpN M A (call (.type T) a.pos a.kw) Q E s₁) E s) :
    wpN M A (callWith pos (.type T) [] args []) Q E s := by
  unfold callWith
  refine wpN_bind (wpN_holding (wpN_mono h (fun a s₁ h₁ => wpN_bindA (wpAny_standAt ?_)) fun _ _ x => x))
  simp only [hplain, List.any_nil, Bool.or_false]
  exact wpN_bindA (wpAny_pure (tailN h₁))
theorem withN_type {pos : Pos} {T : String} {e : Expr} {rest : List Expr} {Q : Value → Shared → Prop}
    (h : wpN M A (spliced (backTo pos (starEach (e :: rest) env))) (fun vs s₁ => wpN M A (call (.type T) vs) Q E s₁) E s)
    (he : starEach (e :: rest) env = (false, eval e env) :: starEach rest env := by rfl)
    (hplain : (backTo pos (starEach rest env)).any (·.1) = false := by rfl) :
    wpN M A (callWith pos (.type T) [] (backTo pos (starEach (e :: rest) env)) []) Q E s := by
  rw [he] at h ⊢
  exact withN_typ (by show (false || (backTo pos (starEach rest env)).any (·.1)) = false; rw [hplain]; rfl) (argsN_plain h)
end
section
variable {prog : Program} {w : World} {A : Around} {s : Shared}
theorem codeN_func {R : Result → Shared → Prop} {body env}
    (h : wpN (model prog w) (A.deeper env) (execs body env) (fun f s' => R (.ok (.ret (match f with | .ret v => v | _ => .none))) s') (fun _ _ => False) s) :
    codeN (model prog w) A (.func body env) R s := by
  refine codeN_of_tree rfl ?_
  show wpN _ (A.deeper env) (do point; match ← (execs body env).onRaise (leaving env) with | .ret v => ret v | _ => ret .none) _ _ s
  refine wpN_bindA (wpAny_point (wpN_bind fun Γ p hΓ h1 h2 => ?_))
  rw [Sem.wp_onRaise]
  refine Sem.wp_mono _ Γ _ (fun f p' s' h' => ?_) (fun _ _ _ h' => h'.elim) p s (h Γ p hΓ h1 h2)
  cases f <;> exact wpN_pure h'
/-- a def of the text is entered; some of its names may be cells -/
theorem enterN {R : Result → Shared → Prop} {name : Str} {params : Arguments} {body : List Stmt} {scope : Scope} {pm cd doc : Value} {f : Addr} {oc : Value} {od : Option Addr} {osl : Array (Option Value)} {vs : List Value} {binds : List (Str × Value)}
    (room : A.depth < recursionLimit) (is : s.heap.get? f = some ⟨oc, od, .func (Calls.docDef name params body scope pm cd doc), osl⟩) (std : s.heap.NoLimit ∧ s.heap.CodeRec cd name) (plain : scope.isCoroutine = false ∧ scope.isGenerator = false ∧ scope.kind = .function)
    (bound : bindArgs (Calls.docDef name params body scope pm cd doc) ⟨vs, []⟩ = pure binds) (kinds : ∀ x ∈ binds, scope.names.lookup x.1 = some .local ∨ (scope.names.lookup x.1 = some .cell ∧ ((cellsFrom (s.heap.objs.size + 1) scope.names []).lookup x.1).isSome = true))
    (walk : ∀ en, en = envOfC name scope s.heap.objs.size f cd → ∀ h₁ tk, (∀ b o, s.heap.get? b = some o → h₁.get? b = some o) → h₁.Ns s.heap.objs.size (bindL en.kindOf binds fun _ => none) → (∀ n c, en.cells.lookup n = some c → h₁.IsCell c (bindC en.kindOf binds (fun _ => none) n)) →
      wpN (model prog w) (A.deeper en) (execs body en) (fun fl => R (.ok (.ret (match fl with | .ret v => v | _ => .none)))) (fun _ _ => False) { s with heap := h₁, toks := tk }) :
    codeN (model prog w) A (.call (.ref f) ⟨vs, []⟩) R s := by
  obtain ⟨lim, c, rec, fs, tq, rfl, at_c, fs_c, nm⟩ := std
  obtain ⟨nc, ng, fn⟩ := plain
  refine codeN_of_tree rfl (show wpN _ A.in1 (callAny (.ref f) ⟨vs, []⟩) _ _ s from ?_)
  unfold callAny
  refine wpN_bindA (wpAny_load is ?_)
  simp only [callFunction, Calls.docDef, nc, ng] at bound ⊢
  refine wpN_bindA (m := field (.ref c) 1) (wpAny_field at_c fs_c nm (wpN_bindA (wpAny_pure ?_)))
  rw [bound]
  refine wpN_bindA (wpAny_pure (wpN_bindA (wpAny_newFunctionEnv_cells fn kinds fun en is_en s' X => ?_)))
  obtain ⟨h₁, tk, rfl, _⟩ := X.done
  have up := X.toInCall.keep
  exact wpN_bindA (wpAny_enterFrame (lim.keeps up) room (wpN_pure (a := Fin.again _) ⟨rfl, codeN_func (walk en is_en h₁ tk up (is_en ▸ X.toInCall.ns) X.cell)⟩))
theorem codeN_builtin {R : Result → Shared → Prop} {id : String} {args : Args} {b : Builtin} (hcl : askedIds.contains id = false) (hb : entryFor table id = some b)
    (h : wpN (model prog w) (A.under (.builtin id args)) (b args) (fun fin s' => match fin with | .done f => R (.ok f) s' | .again c' => c'.quiet = true ∧ codeN (model prog w) A c' R s') (fun e s' => R (.error e) s') s) :
    codeN (model prog w) A (.builtin id args) R s := by
  refine codeN_of_tree (by show (!(askedIds.contains id)) = true; rw [hcl]; rfl) ?_
  show wpN _ _ (match entryFor table id with | some b => b args | none => unsupported ((withoutEnding? id "#data").getD id)) _ _ s
  rw [hb]; exact h
theorem codeN_call_builtin {R : Result → Shared → Prop} {id : String} {args : Args} (hq : (Code.builtin id args).quiet = true)
    (h : wpAny (model prog w) A.in1 (checkBuiltinCall id args) (fun _ s₁ => codeN (model prog w) A (.builtin id args) R s₁) (fun e s' => R (.error e) s') s) : codeN (model prog w) A (.call (.builtin id) args) R s := by
  refine codeN_of_tree rfl ?_
  show wpN _ A.in1 (do checkBuiltinCall id args; again (.builtin id args)) _ _ s
  exact wpN_bindA (wpAny_mono h (fun _ s₁ h₁ => wpN_pure (And.intro hq h₁)) fun _ _ h' => h')
theorem codeN_call_type {R : Result → Shared → Prop} {T : String} {args : List Value}
    (h : wpN (model prog w) (A.under (.builtin "type.__call__" ⟨.type T :: args, []⟩)) (Builtin.«type.__call__» ⟨.type T :: args, []⟩) (fun fin s' => match fin with | .done f => R (.ok f) s' | .again c' => c'.quiet = true ∧ codeN (model prog w) A c' R s') (fun e s' => R (.error e) s') s) :
    codeN (model prog w) A (.call (.type T) ⟨args, []⟩) R s := by
  refine codeN_of_tree rfl ?_
  show wpN _ _ (again (.builtin "type.__call__" ⟨.type T :: args, []⟩)) _ _ _
  exact wpN_pure (a := Fin.again _) ⟨Code.quiet_builtin _ (by decide +kernel), codeN_builtin (by decide +kernel) PySem.entry_typeCall h⟩
/-- the caller's own stack -/
theorem top0_call {f : Value} {vs : List Value} {Q : Value → Shared → Prop} {E : Value → Shared → Prop} (h : wpN (model prog w) callerA (call f vs) Q E s) (p : Pos) :
    Sem.wp (model prog w) top0 (call f vs) (fun v _ s' => Q v s') (fun e _ s' => E e s') p s :=
  h top0 p caller_in (by decide +kernel) (fun x hx => by cases hx)
end
end Mine
end

section
open PySem PySem.W PySem.W.X PyProof.Rows PySem.Calls
namespace Mine
def baObj (b : Array UInt8) : Obj := ⟨.type "bytearray", none, .bytearray b 0, #[]⟩
theorem ba_check {n : Int} {t : Tok} : checkTypeCall "bytearray" ⟨[.int n t], []⟩ = pure () := by kernel_rfl
theorem ba_can : ((Manifest.find? "bytearray").bind fun x => List.findSome? (fun t => (Manifest.find? t).bind fun b =>
    if b.noNew = true then some true else if (b.attrs.any fun x => x.fst == "__new__") = true then some false else none) x.mro).getD false = false := by kernel_rfl
theorem ba_mro : mroOf (.type "bytearray") = pure [.type "bytearray", .type "object"] := by kernel_rfl
theorem ba_made : Bind.madeBy (.type "bytearray") = pure (some "bytearray.__new__") := by kernel_rfl
theorem ba_sub : isSubtype (.type "bytearray") (.type "bytearray") = pure true := by kernel_rfl
theorem ba_slot : Slot "bytearray" "__init__" "bytearray.__init__" :=
  Slot.of (by rw [typeLookup_type, builtinLookup_eq_fast]; kernel_rfl) (owner := "bytearray") (n := "__init__") (by decide +kernel) (by decide +kernel) (by decide +kernel) (.inl (by decide +kernel)) ba_sub
theorem ba_entry : entryFor table "bytearray.__init__" = some Builtin.«bytearray.__init__» := entryFor_of_tree (by kernel_rfl)
section
variable {M : Model} {w : World} {A : Around} {E : Value → Shared → Prop} {s : Shared} {α β : Type}
theorem wpN_iff {c : Bool} {a b : Sem α} {Q : α → Shared → Prop} (h : c = false) (k : wpN M A b Q E s) : wpN M A (if c = true then a else b) Q E s := by
  rw [h]; exact k
theorem wpN_ift {c : Bool} {a b : Sem α} {Q : α → Shared → Prop} (h : c = true) (k : wpN M A a Q E s) : wpN M A (if c = true then a else b) Q E s := by
  rw [h]; exact k
theorem wpN_bindp {m : Sem α} {f : α → Sem β} {Q : β → Shared → Prop} (a : α) (e : m = pure a) (k : wpN M A (f a) Q E s) : wpN M A (m >>= f) Q E s := by
  rw [e]; exact wpN_bind (wpN_pure k)
theorem asked_not {id : String} {args : Args} (e : askedIds.contains id = true) : clr (.builtin id args) ≠ true := by
  show (!(askedIds.contains id)) ≠ true
  rw [e]; decide
theorem held_not {id : String} {args : Args} (h : clr (.builtin id args) = true) : Builtin.Bytes.decodersThatHold.contains id = false := by
  cases e : Builtin.Bytes.decodersThatHold.contains id with
  | false => rfl
  | true => exact absurd h (asked_not (List.contains_iff_mem.mpr (List.mem_append_right _ (List.contains_iff_mem.mp e))))
theorem no_asked (x : Code × Pos) (h : clr x.1 = true) (h1 : (v : Value) → (tail : List Value) → (kw : List (Str × Value)) → Pos → Bool) (h2 : (v : Value) → (tail : List Value) → (kw : List (Str × Value)) → Pos → Bool) (h3 : (head v : Value) → (tail : List Value) → (kw : List (Str × Value)) → Pos → Bool) (h4 : (v : Value) → (tail : List Value) → (kw : List (Str × Value)) → Pos → Bool)
    (h5 : (head head_1 : Value) → (held : List Value) → (kw : List (Str × Value)) → Pos → Bool) (h6 : (id : String) → (v : Value) → (tail : List Value) → (kw : List (Str × Value)) → Pos → Bool) (h7 : Code × Pos → Bool)
    (e6 : ∀ id v tail kw p, Builtin.Bytes.decodersThatHold.contains id = false → h6 id v tail kw p = false) (e7 : ∀ x, h7 x = false) : Builtin.Bytes.exported.match_1 (fun _ => Bool) x h1 h2 h3 h4 h5 h6 h7 = false := by
  obtain ⟨c, p⟩ := x
  cases c with
  | builtin id args =>
    have n : ∀ lit, askedIds.contains lit = true → ¬ id = lit := fun lit e z => asked_not (args := args) e (z ▸ h)
    unfold Builtin.Bytes.exported.match_1
    show dite (id = "bytearray.__contains__") _ _ = false
    rw [dif_neg (n _ (by decide +kernel)), dif_neg (n _ (by decide +kernel)), dif_neg (n _ (by decide +kernel)), dif_neg (n _ (by decide +kernel)), dif_neg (n _ (by decide +kernel))]
    obtain ⟨pos, kw⟩ := args
    cases pos with
    | nil => exact e7 _
    | cons v tail => exact e6 _ _ _ _ _ (held_not (args := ⟨[], []⟩) h)
  | _ => exact e7 _
theorem ba_asked {self : Value} {Q : Bool → Shared → Prop} (h : Q false s) : wpN M A (Builtin.Bytes.exported self) Q E s := fun Γ p _ h1 h2 => by
  have key : ∀ b, b = false → Q b s := by rintro _ rfl; exact h
  have hl := Clr.cons (p := p) h1 h2
  unfold Builtin.Bytes.exported
  show Q (List.any ((Γ.code, p) :: Γ.below) _) s
  refine key _ ?_
  rw [List.any_eq_false]
  intro x hx
  rw [no_asked x (hl x hx) _ _ _ _ _ _ _ (fun id v tail kw p e => by rw [e, Bool.and_false]) (fun _ => rfl)]
  exact Bool.false_ne_true
theorem ba_write {P : Addr} {b : Array UInt8} {f : Array UInt8 → Array UInt8} {Q : Unit → Shared → Prop} (hP : s.heap.get? P = some (baObj b)) (hc : (f b).size ≤ 1000)
    (hQ : ∀ h' : Heap, h'.get? P = some (baObj (f b)) → (∀ a o, a ≠ P → s.heap.get? a = some o → h'.get? a = some o) → Q () { s with heap := h' }) :
    wpAny M A (Builtin.Bytes.write (.ref P) f) Q E s := by
  show wpAny M A (updateBytearray P f) Q E s
  unfold updateBytearray
  refine wpAny_bind (wpAny_load hP ?_)
  show wpAny M A (update P (Obj.mapBytearray f) >>= fun _ => lookBehind P) Q E s
  have self : (s.heap.update P (Obj.mapBytearray f)).get? P = some (baObj (f b)) := Heap.get?_update_self _ hP rfl
  refine wpAny_bind (wpAny_update hP (wpAny_lookBehind self ?_ ?_))
  · show (if (f b).size > sizeLine then some "bytearray:memory" else none) = none
    rw [if_neg (by rw [sizeLine_eq]; lia)]
  · exact hQ _ self fun a o n e => (Heap.get?_update_other _ _ n.symm).trans e
theorem ba_rel : typeLookup (.type "bytearray") "__release_buffer__" = pure (some (.builtin "bytearray.__release_buffer__")) := by rw [typeLookup_type, builtinLookup_eq_fast]; kernel_rfl
theorem ba_int : typeLookup (.type "int") "__index__" = pure (some (.builtin "int.__index__")) := by rw [typeLookup_type, builtinLookup_eq_fast]; kernel_rfl
theorem ba_own {P : Addr} {b : Array UInt8} {Q : Bool → Shared → Prop} (hP : s.heap.get? P = some (baObj b)) (hQ : Q false s) :
    wpAny M A (Builtin.Bytes.ownRelease (.ref P)) Q E s := by
  unfold Builtin.Bytes.ownRelease Builtin.Bytes.slotIsOwn
  refine wpAny_bind (wpAny_bind (wpAny_specialOf ⟨_, hP, rfl⟩ ba_rel ?_))
  show wpAny M A (if (!("bytearray.__release_buffer__" : String).endsWith ("." ++ "__release_buffer__")) = true then _ else _) _ E s
  rw [if_neg (by decide +kernel)]
  have e : (("bytearray.__release_buffer__" : String).dropRight (("__release_buffer__" : String).length + 1)) = "bytearray" := by decide +kernel
  show wpAny M A (isInstance (.ref P) (.type (("bytearray.__release_buffer__" : String).dropRight (("__release_buffer__" : String).length + 1)))) _ E s
  rw [e]
  exact wpAny_isInstance ⟨_, hP, rfl⟩ ba_sub (wpAny_pure hQ)
theorem ba_init {P : Addr} {n : Int} {t : Tok} {Q : Fin → Shared → Prop} (hP : s.heap.get? P = some (baObj #[])) (h0 : 0 ≤ n) (h1 : n ≤ 1000)
    (hQ : ∀ h' : Heap, h'.get? P = some (baObj (Array.replicate n.toNat 0)) → (∀ a o, a ≠ P → s.heap.get? a = some o → h'.get? a = some o) → Q (.done (.ret .none)) { s with heap := h' }) :
    wpN (model PySem.Challenge.rw_qh0048_01.row.prog w) A (Builtin.«bytearray.__init__» ⟨[.ref P, .int n t], []⟩) Q E s := by
  unfold Builtin.«bytearray.__init__»
  dsimp only
  refine wpN_bindA (ba_own hP ?_)
  refine wpN_iff rfl ?_
  refine wpN_bindp [some (.int n t), none, none] (by kernel_rfl) ?_
  dsimp only
  refine wpN_bindp () rfl ?_
  refine wpN_bindp () rfl ?_
  refine wpN_bind (show wpN _ _ (Builtin.Bytes.exported (.ref P) >>= fun b => _) _ _ _ from wpN_bind (ba_asked ?_))
  refine .of (wpAny_bind (show wpAny _ _ (load P >>= _) _ _ _ from wpAny_bind (wpAny_load hP (wpAny_pure (wpAny_pure ?_)))))
  refine wpN_iff (by decide) ?_
  refine wpN_bindA (ba_write hP (by decide) fun h₁ hP₁ k₁ => .of ?_)
  refine wpAny_bind (wpAny_pure ?_)
  refine e_nb rfl ?_
  refine e_nb (by unfold Builtin.Bytes.fitsIndex; simp; lia) ?_
  refine e_ifn (by lia) ?_
  refine e_nb (by rw [beq_eq_false_iff_ne]; lia) ?_
  refine e_nb (by unfold Builtin.Bytes.tooLong; rw [sizeLine_eq]; simp; lia) ?_
  refine wpAny_bind (wpAny_rule ?_)
  by_cases hn : n > 0
  · refine e_ify hn ?_
    refine wpAny_bind (ba_write hP₁ (by simp; lia) fun h₂ hP₂ k₂ => ?_)
    exact wpAny_pure (hQ h₂ hP₂ fun a o n e => k₂ a o n (k₁ a o n e))
  · refine e_ifn hn ?_
    refine wpAny_pure (hQ h₁ ?_ k₁)
    rw [hP₁, show n.toNat = 0 by lia]; rfl
local macro_rules | `(tactic| x_close) => `(tactic| ((rename Mem _ _ _ _ => D); exact ⟨_, _, _, rfl, rfl, D⟩))
theorem x_banew {prog : Program} (hprog : prog = PySem.Challenge.rw_qh0048_01.row.prog) {h : Heap} {g : Array GenState} {d : Drawn} {tk : Nat} {os : OsState} {n : Int} {t : Tok} (X : (K1 w.params).In h) :
    wpAny (model prog w) A (.call (.call (.builtin "bytearray.__new__") ⟨[.type "bytearray", .int n t], []⟩) none false [] Sem.pure) (fun r s' => ∃ P h' tk, r = .ok (.ret (.ref P)) ∧ s' = ⟨h', g, d, tk, os⟩ ∧ Mem h h' [] [(P, baObj #[])]) E ⟨h, g, d, tk, os⟩ := by
  revert X hprog; k_fill; intro hprog X; clear hprog
  x_run
theorem ba_new {n : Int} {t : Tok} (X : (K1 w.params).In s.heap) :
    wpAny (model PySem.Challenge.rw_qh0048_01.row.prog w) A (call (.builtin "bytearray.__new__") [.type "bytearray", .int n t]) (fun v s' => ∃ P h' tk, v = .ref P ∧ s' = { s with heap := h', toks := tk } ∧ Mem s.heap h' [] [(P, baObj #[])]) (fun _ _ => False) s := by
  obtain ⟨h, g, d, tk, os⟩ := s
  show wpAny _ A (.call (.call (.builtin "bytearray.__new__") ⟨[.type "bytearray", .int n t], []⟩) none false [] _) _ _ _
  refine e_call (wpAny_mono (x_banew rfl X) ?_ fun _ _ q => q)
  rintro _ _ ⟨P, h', tk', rfl, rfl, M₁⟩
  exact e_pure ⟨P, h', tk', rfl, rfl, M₁⟩
theorem ba_call {n : Int} {t : Tok} {Q : Value → Shared → Prop} (X : (K1 w.params).In s.heap) (h0 : 0 ≤ n) (h1 : n ≤ 1000)
    (hQ : ∀ h' tk P, Keep s.heap h' → s.heap.get? P = none → h'.get? P = some (baObj (Array.replicate n.toNat 0)) → Q (.ref P) { s with heap := h', toks := tk }) :
    wpN (model PySem.Challenge.rw_qh0048_01.row.prog w) A (call (.type "bytearray") [.int n t]) Q E s := by
  refine wpN_call (codeN_call_type ?_)
  unfold Builtin.«type.__call__»
  dsimp only
  refine wpN_iff (by kernel_rfl) ?_
  refine wpN_iff ba_can ?_
  refine wpN_bindp () ba_check ?_
  refine wpN_bindp _ ba_mro ?_
  refine wpN_iff rfl ?_
  refine wpN_bindp _ ba_made ?_
  refine wpN_bindp _ rfl ?_
  refine wpN_bindA (wpAny_holding (wpAny_mono (ba_new X) ?_ fun _ _ x => x.elim))
  rintro _ _ ⟨P, h₁, tk₁, rfl, rfl, M₁⟩
  have hP := M₁.at 0 P _ rfl
  refine wpN_bindA (wpAny_isInstance ⟨_, hP, rfl⟩ ba_sub ?_)
  refine wpN_iff rfl ?_
  refine wpN_bind (wpN_holding ?_)
  simp only [callSpecial?]
  refine wpN_bindA (wpAny_specialOf ⟨_, hP, rfl⟩ ba_slot.lookup ?_)
  simp only [ba_slot.bind]
  refine wpN_holding (wpN_bindA (wpAny_pure (wpN_bind (wpN_call (codeN_call_builtin (plainId_quiet ba_slot.plain _) ?_)))))
  refine ba_slot.check _ _ _ _ _ _ _ _ ⟨_, hP, rfl⟩ (by unfold argsOk; kernel_rfl) ?_
  refine codeN_builtin (by decide +kernel) ba_entry (ba_init hP h0 h1 fun h₂ hP₂ k₂ => ?_)
  refine wpN_pure ?_
  refine wpN_iff rfl ?_
  refine wpN_pure ?_
  have fr : s.heap.get? P = none := (M₁.nw (P, baObj #[]) (List.mem_cons_self ..)).2
  exact hQ h₂ tk₁ P (fun b o e => k₂ b o (fun z => by rw [z, fr] at e; cases e) (M₁.keep b o e (Bool.or_true _))) fr hP₂
end
end Mine
end

section
open PySem PySem.W PySem.W.X PyProof.Rows PySem.Calls
namespace Mine
theorem ba_sslot : Slot "bytearray" "__setitem__" "bytearray.__setitem__" :=
  Slot.of (by rw [typeLookup_type, builtinLookup_eq_fast]; kernel_rfl) (owner := "bytearray") (n := "__setitem__") (by decide +kernel) (by decide +kernel) (by decide +kernel) (.inl (by decide +kernel)) ba_sub
theorem ba_sentry : entryFor table "bytearray.__setitem__" = some Builtin.«bytearray.__setitem__» := entryFor_of_tree (by kernel_rfl)
section
variable {w : World} {A : Around} {E : Value → Shared → Prop} {s : Shared}
theorem ba_set {P : Addr} {b : Array UInt8} {k v : Int} {t t' : Tok} {Q : Unit → Shared → Prop} (hP : s.heap.get? P = some (baObj b)) (h0 : 0 ≤ k) (h1 : k < b.size) (h2 : b.size ≤ 1000) (h3 : 0 ≤ v) (h4 : v < 256)
    (hQ : ∀ h' : Heap, h'.get? P = some (baObj (b.setIfInBounds k.toNat v.toNat.toUInt8)) → (∀ a o, a ≠ P → s.heap.get? a = some o → h'.get? a = some o) → Q () { s with heap := h' }) :
    wpAny (model PySem.Challenge.rw_qh0048_01.row.prog w) A (setItem (.ref P) (.int k t) (.int v t')) Q E s := by
  have hT : s.TypeIs (.ref P) "bytearray" := ⟨_, hP, rfl⟩
  unfold setItem
  refine wpAny_holding ?_
  refine wpAny_bind (wpAny_sequenceKey hT (by decide) ?_)
  refine wpAny_bind (wpAny_callSpecial?_slot (name := Str.ofString "__setitem__") hT ba_sslot
    (wpAny_call_entry ba_sslot hT ba_sentry ?_ (by unfold argsOk; kernel_rfl)))
  unfold Builtin.«bytearray.__setitem__»
  dsimp only
  refine e_nb rfl ?_
  refine wpAny_bind (wpAny_bind (wpAny_specialOf (T := "int") rfl ba_int ?_))
  refine e_nb rfl ?_
  refine wpAny_bind (wpAny_of_eq (a := k) rfl ?_)
  refine e_nb (by unfold Builtin.Bytes.fitsIndex; simp; lia) (wpAny_pure ?_)
  dsimp only
  refine wpAny_bind ?_
  unfold Builtin.Bytes.byteValue
  refine wpAny_bind (wpAny_of_eq (a := v) rfl ?_)
  refine e_nb (by simp; lia) (wpAny_pure ?_)
  refine wpAny_bind ?_
  unfold Builtin.Bytes.payload
  refine wpAny_bind (show wpAny _ _ (load P >>= _) _ _ _ from wpAny_bind (wpAny_load hP (wpAny_pure (wpAny_pure ?_))))
  have e : seqIndex? k b.size = some k.toNat := by
    have hk : ¬ k < 0 := by lia
    simp [seqIndex?, hk, h0, h1]
  rw [e]
  dsimp only
  refine wpAny_bind (ba_write hP (by simpa using h2) fun h' hP' k' => ?_)
  exact wpAny_pure ⟨_, rfl, wpAny_pure (hQ h' hP' k')⟩
end
end Mine
end

section
namespace Mine
def sw (q : Nat) : Nat := 3 * (q / 3) + (2 - q % 3)
/-- each three octets, turned about -/
def swap3 (b : List UInt8) : List UInt8 := (List.range b.length).map fun q => b.getD (sw q) 0
def Part (b : List UInt8) (c : Array UInt8) (i j : Nat) : Prop := c.size = b.length ∧ ∀ q, q < b.length → (q < 3 * i ∨ (q / 3 = i ∧ 2 - q % 3 < j)) → c[q]? = some (b.getD (sw q) 0)
theorem part_start (b : List UInt8) : Part b (Array.replicate b.length 0) 0 0 := by
  refine ⟨by simp, fun q _ h => ?_⟩
  lia
theorem part_set {b : List UInt8} {c : Array UInt8} {i j n : Nat} (h : Part b c i j) (hb : b.length = 3 * n) (hi : i < n) (hj : j < 3) : Part b (c.setIfInBounds (3 * i + 2 - j) (b.getD (3 * i + j) 0)) i (j + 1) := by
  refine ⟨by simp [h.1], fun q hq hd => ?_⟩
  rw [Array.getElem?_setIfInBounds]
  by_cases e : 3 * i + 2 - j = q
  · rw [if_pos e, if_pos (by rw [h.1]; lia)]
    have : sw q = 3 * i + j := by unfold sw; lia
    rw [this]
  · rw [if_neg e]
    exact h.2 q hq (by lia)
theorem part_next {b : List UInt8} {c : Array UInt8} {i : Nat} (h : Part b c i 3) : Part b c (i + 1) 0 := ⟨h.1, fun q hq hd => h.2 q hq (by lia)⟩
theorem part_done {b : List UInt8} {c : Array UInt8} {n : Nat} (h : Part b c n 0) (hb : b.length = 3 * n) : c = (swap3 b).toArray := by
  apply Array.ext
  · simp [swap3, h.1]
  · intro q h1 h2
    have hq : q < b.length := by rw [← h.1]; exact h1
    have := h.2 q hq (.inl (by lia))
    rw [Array.getElem?_eq_getElem h1] at this
    simp [swap3]
    injection this
end Mine
end

section
open PySem PySem.W PySem.W.X PyProof.Rows PySem.Calls
namespace Mine
variable [Inhabited Base]
section
variable {w : World} {A : Around} {E : Value → Shared → Prop} {Q : Value → Shared → Prop} {s : Shared}
local macro_rules | `(tactic| x_close) => `(tactic| exact ⟨_, _, rfl, rfl⟩)
theorem x_bytes {prog : Program} (hprog : prog = PySem.Challenge.rw_qh0048_01.row.prog) {h : Heap} {g : Array GenState} {d : Drawn} {t : Nat} {os : OsState} {a : Addr} {b : Array UInt8} (X : (K1 w.params).In h) (ha : h.get? a = some ⟨.type "bytearray", none, .bytearray b 0, #[]⟩) (h1 : b.size ≤ 1000) :
    wpAny (model prog w) A (.call (.call (.type "bytes") ⟨[.ref a], []⟩) none false [] Sem.pure) (fun r s' => ∃ P tk, r = .ok (.ret (.bytes b P)) ∧ s' = ⟨h, g, d, tk, os⟩) E ⟨h, g, d, t, os⟩ := by
  revert X hprog; k_fill; intro hprog X; clear hprog
  x_run
theorem bytes_rule {a : Addr} {b : Array UInt8} (X : (K1 w.params).In s.heap) (ha : s.heap.get? a = some (baObj b)) (h1 : b.size ≤ 1000)
    (hQ : ∀ tk t', Q (.bytes b t') { s with toks := tk }) :
    wpAny (model PySem.Challenge.rw_qh0048_01.row.prog w) A (call (.type "bytes") [.ref a]) Q E s := by
  obtain ⟨h, g, d, tk, os⟩ := s
  show wpAny _ A (.call (.call (.type "bytes") ⟨[.ref a], []⟩) none false [] _) _ _ _
  refine e_call (wpAny_mono (x_bytes rfl X ha h1) ?_ fun _ _ q => q)
  rintro _ _ ⟨P, tk', rfl, rfl⟩
  exact e_pure (hQ tk' P)
/-- the names of a call of _byteswap -/
structure Bw (L P : Addr) (bl : List UInt8) (t tw : Tok) (g h : Heap) (m : Str → Option Value) (i j : Nat) : Prop where
  keep : Keep g h
  data : m (Str.ofString "data") = some (.bytes bl.toArray t)
  width : m (Str.ofString "width") = some (.int 3 tw)
  sw : m (Str.ofString "swapped_data") = some (.ref P)
  ba : ∃ c, h.get? P = some (baObj c) ∧ Part bl c i j
theorem add3 {a b c : Int} {t u : Tok} {Q : Value → Shared → Prop} (e : a + b = c) (h : ∀ tk t', Q (.int c t') { s with toks := tk }) : wpAny (model PySem.Challenge.rw_qh0048_01.row.prog w) A (binaryOp .Add (.int a t) (.int b u)) Q E s :=
  PyProof.Rows.add_int (by rw [e]; exact h _ _)
theorem sub3 {a b c : Int} {t u : Tok} {Q : Value → Shared → Prop} (e : a - b = c) (h : ∀ tk t', Q (.int c t') { s with toks := tk }) : wpAny (model PySem.Challenge.rw_qh0048_01.row.prog w) A (binaryOp .Sub (.int a t) (.int b u)) Q E s :=
  PyProof.Rows.sub_int (by rw [e]; exact h _ _)
theorem small3 : ∀ n : Nat, n < 21 → Builtin.Range.small 0 (3 * (n : Nat)) 3 = true := by decide +kernel
theorem rng3 {a b c : Int} {t u v : Tok} {Q : Value → Shared → Prop} (hc : c ≠ 0) (hb : c.natAbs < 1073741824) (h : ∀ R h', Keep s.heap h' → s.heap.get? R = none → IsRange h' R a b c t u v → Q (.ref R) { s with heap := h' }) :
    wpAny (model PySem.Challenge.rw_qh0048_01.row.prog w) A (call (.type "range") [.int a t, .int b u, .int c v]) Q E s :=
  call_range_3 hc (h _ _ (fun b o e => Heap.get?_push_of_some _ e) (get_size_none _) (IsRange.new ..)) (.inl (PyProof.noPylong_small hb))
theorem byteswap_spec {bl : List UInt8} {n : Nat} {t tw : Tok} (X : Cx w s.heap) (hA : OkA A 900 900) (h3 : bl.length = 3 * n) (hn : n ≤ 20)
    (hQ : ∀ h' tk t', Keep s.heap h' → Q (.bytes (swap3 bl).toArray t') { s with heap := h', toks := tk }) :
    wpN (model PySem.Challenge.rw_qh0048_01.row.prog w) A (call (.ref 28) [.bytes bl.toArray t, .int 3 tw]) Q E s := by
  refine wpN_call (enterN (Nat.lt_of_le_of_lt hA.depth (Nat.le_of_ble_eq_true rfl)) (X.k 28 _ rfl) ⟨X.lim, codeRec_of X.k (by kernel_rfl)⟩ ⟨rfl, rfl, rfl⟩ (binds := [(Str.ofString "data", .bytes bl.toArray t), (Str.ofString "width", .int 3 tw)]) (by kernel_rfl) ?hk ?_)
  case hk =>
    intro x hx
    rcases List.mem_cons.mp hx with rfl | hx
    · exact .inl rfl
    · rw [List.mem_singleton.mp hx]; exact .inl rfl
  rintro _ rfl h₁ tk k₁ hns -
  replace k₁ : Keep s.heap h₁ := k₁
  have fr : s.heap.get? s.heap.objs.size = none := get_size_none _
  generalize hL : s.heap.objs.size = L at *
  replace hns : h₁.Ns L (fun y => if y = Str.ofString "width" then some (.int 3 tw) else if y = Str.ofString "data" then some (.bytes bl.toArray t) else none) := hns
  have X₁ : Cx w h₁ := X.keeps k₁
  refine wpN_execs_cons (wpN_Assign_Name (wpN_Call_NameR (Mine.nm_bi X₁ (v := .type "bytearray") (by kernel_rfl) (by kernel_rfl) (by decide) ?_)))
  refine withN_type ?_
  refine splN_more (.of (wpAny_Call_NameR (Mine.nm_bi X₁ (v := .builtin "len") (by kernel_rfl) (by kernel_rfl) (by decide) ?_)))
  refine PyProof.Rows.callWith_builtin1 ?_
  refine spliced_more (Mine.nm_loc hns (v := .bytes bl.toArray t) rfl ?_)
  refine spliced_none ?_
  refine PySem.W.len_bytes (by simp; lia) ?_
  refine splN_none ?_
  refine ba_call X₁.k (by lia) (by simp; lia) fun h₂ tk₂ P k₂ fP hP => ?_
  have nPL : P ≠ L := by obtain ⟨o, _, _, e, _⟩ := hns; exact fun z => by rw [z] at fP; rw [fP] at e; cases e
  refine wpAny_storeName_local (by kernel_rfl) (hns.keeps k₂) (fun h₃ ns₃ hs₃ => .of ?_) rfl
  refine norm_sa (h := h₃) (g := s.gens) (d := s.drawn) (o := s.os) ?_
  intro tkn
  replace hs₃ : Heap.SameBut L h₂ h₃ := hs₃
  replace ns₃ : h₃.Ns L (fun y => if y = Str.ofString "swapped_data" then some (.ref P) else if y = Str.ofString "width" then some (.int 3 tw) else if y = Str.ofString "data" then some (.bytes bl.toArray t) else none) := ns₃
  have nL : ∀ {b : Addr} {o : Obj}, s.heap.get? b = some o → b ≠ L := fun e z => by rw [z, fr] at e; cases e
  have nP : ∀ {b : Addr} {o : Obj}, s.heap.get? b = some o → b ≠ P := fun e z => by have := k₁ _ _ e; rw [z, fP] at this; cases this
  have k₃ : Keep s.heap h₃ := fun b o e => hs₃.extBut b o (nL e) (k₂ _ _ (k₁ _ _ e))
  have hP₃ : h₃.get? P = some (baObj (Array.replicate bl.length 0)) := by
    have := hs₃.extBut P _ nPL hP
    simpa using this
  have X₃ : Cx w h₃ := X.keeps k₃
  refine wpAny_execs_cons ?_
  refine wpAny_For (wpAny_Call_NameR (Mine.nm_bi X₃ (v := .type "range") (by kernel_rfl) (by kernel_rfl) (by decide) ?_)) (fun _ => rfl)
  refine PyProof.Rows.callWith_type1 ?_
  refine spliced_more (wpAny_Constant_int ?_)
  refine spliced_more (wpAny_Call_NameR (Mine.nm_bi X₃ (v := .builtin "len") (by kernel_rfl) (by kernel_rfl) (by decide) ?_))
  refine PyProof.Rows.callWith_builtin1 ?_
  refine spliced_more (Mine.nm_loc ns₃ (v := .bytes bl.toArray t) rfl ?_)
  refine spliced_none ?_
  refine PySem.W.len_bytes (by simp; lia) ?_
  refine spliced_more (Mine.nm_loc ns₃ (v := .int 3 tw) rfl ?_)
  refine spliced_none ?_
  have esz : ((bl.toArray.size : Nat) : Int) = 3 * (n : Nat) := by simp; lia
  rw [esz]
  refine rng3 (by decide) (by decide) fun R h₄ k₃₄ fR hR => ?_
  have hsize : Builtin.Range.rangeSize 0 (3 * (n : Nat)) 3 = (n : Nat) := by
    unfold Builtin.Range.rangeSize
    rw [if_pos (by decide)]
    split <;> lia
  refine range3_rule hR (small3 n (by lia)) hsize fun I h₅ k₄₅ fI hI => ?_
  have k₃₅ : Keep h₃ h₅ := Keep.trans k₃₄ k₄₅
  have exI : ∀ {a : Addr} {o : Obj}, h₃.get? a = some o → a ≠ I := fun {a o} e z => by rw [z] at e; cases fI.symm.trans (k₃₄ _ _ e)
  have nIL : I ≠ L := by obtain ⟨o, _, _, e, _⟩ := ns₃; exact fun z => exI e z.symm
  have nIP : I ≠ P := fun z => exI hP₃ z.symm
  have nI : ∀ {b : Addr} {o : Obj}, s.heap.get? b = some o → b ≠ I := fun e => exI (k₃ _ _ e)
  refine norm_sc (h := h₅) (g := s.gens) (d := s.drawn) (o := s.os) ?_
  intro tkn
  refine for_walk (Walks.range (A := A.deeper _) hA.handled I 0 3 n) rfl rfl ?hL (fun k h m => Bw L P bl t tw s.heap h m k 0) ?hst (ns₃.keeps k₃₅) ⟨k₃.trans k₃₅, rfl, rfl, rfl, _, k₃₅ _ _ hP₃, part_start bl⟩ ?turn ?done
  case hL => exact fun z => nIL (List.mem_singleton.mp z).symm
  case hst => simpa using hI
  case turn =>
    rintro i v h₀ h tk' m hi ⟨ti, rfl⟩ J nsL rel st ns
    refine norm_sa (h := h) (g := s.gens) (d := s.drawn) (o := s.os) ?_
    intro tkn
    have rel' : ∀ b o, b ≠ I → b ≠ L → h₀.get? b = some o → h.get? b = some o := fun b o hb hb2 e => rel b o (fun z => hb (List.mem_singleton.mp z)) hb2 e
    obtain ⟨c, hc, pc'⟩ := J.ba
    have kh : Keep s.heap h := fun b o e => rel' b o (nI e) (nL e) (J.keep b o e)
    have Xh : Cx w h := X.keeps kh
    have hcP : h.get? P = some (baObj c) := rel' P _ (Ne.symm nIP) nPL hc
    rw [show (0 : Int) + (i : Nat) * 3 = ((3 * i : Nat) : Int) by lia] at ns
    replace ns : h.Ns L (fun y => if y = Str.ofString "i" then some (.int ((3 * i : Nat) : Int) ti) else m y) := ns
    have stI := st
    refine wpAny_execs_cons ?_
    refine wpAny_For (wpAny_Call_NameR (Mine.nm_bi Xh (v := .type "range") (by kernel_rfl) (by kernel_rfl) (by decide) ?_)) (fun _ => rfl)
    refine PyProof.Rows.callWith_type1 ?_
    refine spliced_more (Mine.nm_loc ns (v := .int 3 tw) ((if_neg (by decide)).trans J.width) ?_)
    refine spliced_none ?_
    refine range1_rule fun R₂ h₆ tk₆ ta tb tc k₆ fR₂ hR₂ => ?_
    have hsz2 : Builtin.Range.rangeSize 0 3 1 = (3 : Nat) := by decide
    refine range3_rule hR₂ (by decide) hsz2 fun I₂ h₇ k₇ fI₂ hI₂ => ?_
    have k₆₇ : Keep h h₇ := Keep.trans k₆ k₇
    have exI₂ : ∀ {a : Addr} {o : Obj}, h.get? a = some o → a ≠ I₂ := fun {a o} e z => by rw [z] at e; cases fI₂.symm.trans (k₆ _ _ e)
    have nI₂L : I₂ ≠ L := by obtain ⟨o, _, _, e, _⟩ := ns; exact fun z => exI₂ e z.symm
    have nI₂P : I₂ ≠ P := fun z => exI₂ hcP z.symm
    have nI₂I : I₂ ≠ I := by
      have stI' : h.get? I = some _ := stI
      exact fun z => exI₂ stI' z.symm
    have nI₂ : ∀ {b : Addr} {o : Obj}, s.heap.get? b = some o → b ≠ I₂ := fun e => exI₂ (kh _ _ e)
    refine for_walk (s := { s with heap := h₇, toks := _ }) (Walks.range (A := A.deeper _) hA.handled I₂ 0 1 3) rfl rfl ?hL2 (fun k h' m' => Bw L P bl t tw s.heap h' m' i k ∧ m' (Str.ofString "i") = some (.int ((3 * i : Nat) : Int) ti) ∧ (∀ o, h.get? I = some o → h'.get? I = some o)) ?hst2 (ns.keeps k₆₇)
      ⟨⟨kh.trans k₆₇, (if_neg (by decide)).trans J.data, (if_neg (by decide)).trans J.width, (if_neg (by decide)).trans J.sw, c, k₆₇ _ _ hcP, pc'⟩, if_pos rfl, fun o e => k₆₇ _ _ e⟩ ?turn2 ?done2
    case hL2 => exact fun z => nI₂L (List.mem_singleton.mp z).symm
    case hst2 => simpa using hI₂
    case turn2 =>
      rintro j v g₀ g tk₂ m₂ hj ⟨tj, rfl⟩ ⟨J₂, hi₂, kI₂⟩ nsL₂ rel₂ st₂ ns₂
      refine norm_sa (h := g) (g := s.gens) (d := s.drawn) (o := s.os) ?_
      intro tkn
      have rel₂' : ∀ b o, b ≠ I₂ → b ≠ L → g₀.get? b = some o → g.get? b = some o := fun b o hb hb2 e => rel₂ b o (fun z => hb (List.mem_singleton.mp z)) hb2 e
      obtain ⟨c₂, hc₂, pc₂⟩ := J₂.ba
      have kg : Keep s.heap g := fun b o e => rel₂' b o (nI₂ e) (nL e) (J₂.keep b o e)
      have hcg : g.get? P = some (baObj c₂) := rel₂' P _ (Ne.symm nI₂P) nPL hc₂
      rw [show (0 : Int) + (j : Nat) * 1 = ((j : Nat) : Int) by lia] at ns₂
      replace ns₂ : g.Ns L (fun y => if y = Str.ofString "j" then some (.int ((j : Nat) : Int) tj) else m₂ y) := ns₂
      have ed : (fun y => if y = Str.ofString "j" then some (Value.int ((j : Nat) : Int) tj) else m₂ y) (Str.ofString "data") = some (.bytes bl.toArray t) := (if_neg (by decide)).trans J₂.data
      have ew : (fun y => if y = Str.ofString "j" then some (Value.int ((j : Nat) : Int) tj) else m₂ y) (Str.ofString "width") = some (.int 3 tw) := (if_neg (by decide)).trans J₂.width
      have es : (fun y => if y = Str.ofString "j" then some (Value.int ((j : Nat) : Int) tj) else m₂ y) (Str.ofString "swapped_data") = some (.ref P) := (if_neg (by decide)).trans J₂.sw
      have ei : (fun y => if y = Str.ofString "j" then some (Value.int ((j : Nat) : Int) tj) else m₂ y) (Str.ofString "i") = some (.int ((3 * i : Nat) : Int) ti) := (if_neg (by decide)).trans hi₂
      have hsz : c₂.size = 3 * n := pc₂.1.trans h3
      refine wpAny_execs_cons ?_
      refine wpAny_Assign_Subscript ?_
      refine PyProof.Rows.Subscript_ (Mine.nm_loc ns₂ ed (wpAny_BinOp (Mine.nm_loc ns₂ ei (Mine.nm_loc ns₂ (if_pos rfl) (add3 (c := ((3 * i + j : Nat) : Int)) (by lia) fun tk₃ t₃ => ?_)))))
      refine KBy.item_N (by lia) (by lia) (by lia) ?_
      refine Mine.nm_loc ns₂ es ?_
      refine wpAny_BinOp (wpAny_BinOp (wpAny_BinOp (Mine.nm_loc ns₂ ei (Mine.nm_loc ns₂ ew (add3 (c := ((3 * i + 3 : Nat) : Int)) (by lia) fun tk₄ t₄ => wpAny_Constant_int (sub3 (c := ((3 * i + 2 : Nat) : Int)) (by lia) fun tk₅ t₅ => Mine.nm_loc ns₂ (if_pos rfl) (sub3 (c := ((3 * i + 2 - j : Nat) : Int)) (by lia) fun tk₆ t₆ => ?_)))))))
      refine ba_set hcg (by lia) (by lia) (by lia) (by lia) (Int.ofNat_lt.mpr (UInt8.toNat_lt _)) fun g' hg' rg' => ?_
      refine wpAny_execs_nil ⟨.inl rfl, g', _, (fun y => if y = Str.ofString "j" then some (Value.int ((j : Nat) : Int) tj) else m₂ y), rfl, ?_, ?ns3, ?j3⟩
      case ns3 => exact ns₂.at' fun o e => rg' _ o nPL.symm e
      case j3 =>
        refine ⟨⟨fun b o e => rg' b o (nP e) (kg b o e), ed, ew, es, _, hg', ?_⟩, ei, fun o e => rg' I o nIP (rel₂' I o nI₂I.symm nIL (kI₂ o e))⟩
        have e : ((3 * i + j : Nat) : Int).toNat = 3 * i + j := Int.toNat_natCast _
        have := part_set pc₂ h3 hi hj
        simp only [e]
        simpa using this
      intro b hb o e
      rw [List.mem_singleton.mp hb] at e ⊢
      exact rg' _ o nI₂P e
    case done2 =>
      rintro g₀ g tk₂ m₂ ⟨J₂, hi₂, kI₂⟩ rel₂ ns₂
      have rel₂' : ∀ b o, b ≠ I₂ → g₀.get? b = some o → g.get? b = some o := fun b o hb e => rel₂ b o (fun z => hb (List.mem_singleton.mp z)) e
      obtain ⟨c₂, hc₂, pc₂⟩ := J₂.ba
      refine wpAny_execs_nil ⟨.inl rfl, g, _, m₂, rfl, ?_, ns₂, ⟨fun b o e => rel₂' b o (nI₂ e) (J₂.keep b o e), J₂.data, J₂.width, J₂.sw, c₂, rel₂' P _ (Ne.symm nI₂P) hc₂, part_next pc₂⟩⟩
      intro b hb o e
      rw [List.mem_singleton.mp hb] at e ⊢
      exact rel₂' I o nI₂I.symm (kI₂ o e)
  case done =>
    intro h₀ h tk' m J rel ns
    have rel' : ∀ b o, b ≠ I → h₀.get? b = some o → h.get? b = some o := fun b o hb e => rel b o (fun z => hb (List.mem_singleton.mp z)) e
    obtain ⟨c, hc, pc'⟩ := J.ba
    have kh : Keep s.heap h := fun b o e => rel' b o (nI e) (J.keep b o e)
    refine wpAny_execs_cons ?_
    refine wpAny_Return_some ?_
    refine wpAny_Call_NameR (Mine.nm_bi (X.keeps kh) (v := .type "bytes") (by kernel_rfl) (by kernel_rfl) (by decide) ?_)
    refine PyProof.Rows.callWith_type1 ?_
    refine spliced_more (Mine.nm_loc ns (v := .ref P) J.sw ?_)
    refine spliced_none ?_
    refine bytes_rule (X.keeps kh).k (rel' P _ (Ne.symm nIP) hc) (by rw [pc'.1]; lia) fun tk2 t' => ?_
    rw [part_done pc' h3]
    exact hQ _ _ _ kh
end
end Mine
end

section
open PySem PySem.W PySem.W.X PyProof.Rows PySem.Calls
namespace Mine
variable [Inhabited Base]
section
variable {w : World} {A : Around} {E : Value → Shared → Prop} {Q : Value → Shared → Prop} {s : Shared}
local macro_rules | `(tactic| x_close) => `(tactic| exact ⟨_, rfl, rfl⟩)
theorem x_type {prog : Program} (hprog : prog = PySem.Challenge.rw_qh0048_01.row.prog) {h : Heap} {g : Array GenState} {d : Drawn} {t : Nat} {os : OsState} {b : Array UInt8} {tb : Tok} (X : (K1 w.params).In h) :
    wpAny (model prog w) A (.call (.call (.type "type") ⟨[.bytes b tb], []⟩) none false [] Sem.pure) (fun r s' => ∃ tk, r = .ok (.ret (.type "bytes")) ∧ s' = ⟨h, g, d, tk, os⟩) E ⟨h, g, d, t, os⟩ := by
  revert X hprog; k_fill; intro hprog X; clear hprog
  x_run
theorem type_rule {b : Array UInt8} {tb : Tok} (X : (K1 w.params).In s.heap) (hQ : ∀ tk, Q (.type "bytes") { s with toks := tk }) :
    wpAny (model PySem.Challenge.rw_qh0048_01.row.prog w) A (call (.type "type") [.bytes b tb]) Q E s := by
  obtain ⟨h, g, d, tk, os⟩ := s
  show wpAny _ A (.call (.call (.type "type") ⟨[.bytes b tb], []⟩) none false [] _) _ _ _
  refine e_call (wpAny_mono (x_type rfl X) ?_ fun _ _ q => q)
  rintro _ _ ⟨tk', rfl, rfl⟩
  exact e_pure (hQ tk')
theorem tyT : (Value.type "bytes" == Value.type "bytes") = true := by kernel_rfl
theorem tyF : (Value.type "bytes" == Value.type "str") = false := by kernel_rfl
theorem buf_spec {b : Array UInt8} {t : Tok} (X : Cx w s.heap) (hA : OkA A 900 400) (hQ : ∀ h' tk, Keep s.heap h' → Q (.bytes b t) { s with heap := h', toks := tk }) :
    wpAny (model PySem.Challenge.rw_qh0048_01.row.prog w) A (call (.ref 63) [.bytes b t]) Q E s := by
  refine enterP (binds := [(Str.ofString "data", .bytes b t)]) X rfl (by kernel_rfl) (Nat.lt_of_le_of_lt hA.depth (Nat.le_of_ble_eq_true rfl)) (BindsTo.of_eq rfl) (locs (by kernel_rfl)) rfl rfl rfl (by decide) fun L h₁ tk k₁ fL ns => ?_
  have X₁ : Cx w h₁ := X.keeps k₁
  have sL : ∀ {b : Addr} {o : Obj}, s.heap.get? b = some o → b ≠ L := fun e z => by rw [z, fL] at e; cases e
  refine wpAny_execs_cons (wpAny_Assign_Name (wpAny_Call_NameR (Mine.nm_bi X₁ (v := .type "type") (by kernel_rfl) (by kernel_rfl) (by decide) ?_)))
  refine PyProof.Rows.callWith_type1 ?_
  refine spliced_more (Mine.nm_loc ns (v := .bytes b t) rfl ?_)
  refine spliced_none (type_rule X₁.k fun tk₂ => ?_)
  refine wpAny_storeName_local (by kernel_rfl) ns (fun h₂ ns₂ hs₂ => ?_) rfl
  refine norm_sa (h := h₂) (g := s.gens) (d := s.drawn) (o := s.os) ?_
  intro tkn
  have k₂ : Keep s.heap h₂ := fun b o e => hs₂.extBut b o (sL e) (k₁ _ _ e)
  refine wpAny_execs_cons (wpAny_If (wpAny_isTrue_Compare1 (Mine.nm_loc ns₂ (v := .type "bytes") (by kernel_rfl) (Mine.nm_bi (X.keeps k₂) (v := .type "bytes") (by kernel_rfl) (by kernel_rfl) (by decide) ?_))))
  refine e_pure (wpAny_truthy_bool (ite_p (fun _ => ?_) (fun e => ?_)))
  · exact wpAny_execs_cons (wpAny_Return_some (Mine.nm_loc ns₂ (v := .bytes b t) (by kernel_rfl) (hQ _ _ k₂)))
  · rw [tyT] at e; cases e
theorem asc_spec {b : Array UInt8} {t : Tok} (X : Cx w s.heap) (hA : OkA A 900 400) (hQ : ∀ h' tk, Keep s.heap h' → Q (.bytes b t) { s with heap := h', toks := tk }) :
    wpAny (model PySem.Challenge.rw_qh0048_01.row.prog w) A (call (.ref 56) [.bytes b t]) Q E s := by
  refine enterP (binds := [(Str.ofString "data", .bytes b t)]) X rfl (by kernel_rfl) (Nat.lt_of_le_of_lt hA.depth (Nat.le_of_ble_eq_true rfl)) (BindsTo.of_eq rfl) (locs (by kernel_rfl)) rfl rfl rfl (by decide) fun L h₁ tk k₁ fL ns => ?_
  have X₁ : Cx w h₁ := X.keeps k₁
  have sL : ∀ {b : Addr} {o : Obj}, s.heap.get? b = some o → b ≠ L := fun e z => by rw [z, fL] at e; cases e
  refine wpAny_execs_cons (wpAny_Assign_Name (wpAny_Call_NameR (Mine.nm_bi X₁ (v := .type "type") (by kernel_rfl) (by kernel_rfl) (by decide) ?_)))
  refine PyProof.Rows.callWith_type1 ?_
  refine spliced_more (Mine.nm_loc ns (v := .bytes b t) rfl ?_)
  refine spliced_none (type_rule X₁.k fun tk₂ => ?_)
  refine wpAny_storeName_local (by kernel_rfl) ns (fun h₂ ns₂ hs₂ => ?_) rfl
  refine norm_sa (h := h₂) (g := s.gens) (d := s.drawn) (o := s.os) ?_
  intro tkn
  have k₂ : Keep s.heap h₂ := fun b o e => hs₂.extBut b o (sL e) (k₁ _ _ e)
  refine wpAny_execs_cons (wpAny_If (wpAny_isTrue_Compare1 (Mine.nm_loc ns₂ (v := .type "bytes") (by kernel_rfl) (Mine.nm_bi (X.keeps k₂) (v := .type "str") (by kernel_rfl) (by kernel_rfl) (by decide) ?_))))
  refine e_pure (wpAny_truthy_bool (ite_p (fun e => ?_) (fun _ => ?_)))
  · rw [tyF] at e; cases e
  refine wpAny_execs_nil ?_
  refine wpAny_execs_cons (wpAny_If (wpAny_isTrue_Compare1 (Mine.nm_loc ns₂ (v := .type "bytes") (by kernel_rfl) (Mine.nm_bi (X.keeps k₂) (v := .type "bytes") (by kernel_rfl) (by kernel_rfl) (by decide) ?_))))
  refine e_pure (wpAny_truthy_bool (ite_p (fun _ => ?_) (fun e => ?_)))
  · exact wpAny_execs_cons (wpAny_Return_some (Mine.nm_loc ns₂ (v := .bytes b t) (by kernel_rfl) (hQ _ _ k₂)))
  · rw [tyT] at e; cases e
end
section
variable {w : World} {A : Around} {E Q : Value → Shared → Prop} {s : Shared}
local macro_rules | `(tactic| x_close) => `(tactic| exact ⟨_, rfl, rfl⟩)
theorem x_typeB {prog : Program} (hprog : prog = PySem.Challenge.rw_qh0048_01.row.prog) {h : Heap} {g : Array GenState} {d : Drawn} {t : Nat} {os : OsState} (X : (K1 w.params).In h) :
    wpAny (model prog w) A (.call (.call (.type "type") ⟨[.bool false], []⟩) none false [] Sem.pure) (fun r s' => ∃ tk, r = .ok (.ret (.type "bool")) ∧ s' = ⟨h, g, d, tk, os⟩) E ⟨h, g, d, t, os⟩ := by
  revert X hprog; k_fill; intro hprog X; clear hprog
  x_run
theorem x_isi1 {b : Array UInt8} {tb : Tok} {prog : Program} (hprog : prog = PySem.Challenge.rw_qh0048_01.row.prog) {h : Heap} {g : Array GenState} {d : Drawn} {t : Nat} {os : OsState} (X : (K1 w.params).In h) :
    wpAny (model prog w) A (.call (.call (.builtin "isinstance") ⟨[.bytes b tb, .type "str"], []⟩) none false [] Sem.pure) (fun r s' => ∃ tk, r = .ok (.ret (.bool false)) ∧ s' = ⟨h, g, d, tk, os⟩) E ⟨h, g, d, t, os⟩ := by
  revert X hprog; k_fill; intro hprog X; clear hprog
  x_run
theorem x_isi2 {b : Array UInt8} {tb : Tok} {prog : Program} (hprog : prog = PySem.Challenge.rw_qh0048_01.row.prog) {h : Heap} {g : Array GenState} {d : Drawn} {t : Nat} {os : OsState} (X : (K1 w.params).In h) :
    wpAny (model prog w) A (.call (.call (.builtin "isinstance") ⟨[.bytes b tb, .ref 29], []⟩) none false [] Sem.pure) (fun r s' => ∃ tk, r = .ok (.ret (.bool true)) ∧ s' = ⟨h, g, d, tk, os⟩) E ⟨h, g, d, t, os⟩ := by
  revert X hprog; k_fill; intro hprog X; clear hprog
  x_run
theorem x_rule {f v r : Value} {rest : List Value} (hx : ∀ {prog : Program}, prog = PySem.Challenge.rw_qh0048_01.row.prog → ∀ {h : Heap} {g : Array GenState} {d : Drawn} {t : Nat} {os : OsState}, (K1 w.params).In h → wpAny (model prog w) A (.call (.call f ⟨v :: rest, []⟩) none false [] Sem.pure) (fun x s' => ∃ tk, x = .ok (.ret r) ∧ s' = ⟨h, g, d, tk, os⟩) E ⟨h, g, d, t, os⟩)
    (X : (K1 w.params).In s.heap) (hQ : ∀ tk, Q r { s with toks := tk }) : wpAny (model PySem.Challenge.rw_qh0048_01.row.prog w) A (call f (v :: rest)) Q E s := by
  obtain ⟨h, g, d, tk, os⟩ := s
  show wpAny _ A (.call (.call f ⟨v :: rest, []⟩) none false [] _) _ _ _
  refine e_call (wpAny_mono (hx rfl X) ?_ fun _ _ q => q)
  rintro _ _ ⟨tk', rfl, rfl⟩
  exact e_pure (hQ tk')
theorem tyB : (Value.type "bool" == Value.type "bool") = true := by kernel_rfl
theorem truth_spec (X : Cx w s.heap) (hA : OkA A 690 400)
    (hQ : ∀ h' tk, Keep s.heap h' → Q (.bool false) { s with heap := h', toks := tk }) :
    wpAny (model PySem.Challenge.rw_qh0048_01.row.prog w) A (call (.ref 70) [.bool false]) Q E s := by
  refine enterP (binds := [(Str.ofString "x", .bool false)]) X rfl (by kernel_rfl) (Nat.lt_of_le_of_lt hA.depth (Nat.le_of_ble_eq_true rfl)) (BindsTo.of_eq rfl) (locs (by kernel_rfl)) rfl rfl rfl (by decide) fun L h₁ tk k₁ fL ns => ?_
  have X₁ : Cx w h₁ := X.keeps k₁
  have sL : ∀ {b : Addr} {o : Obj}, s.heap.get? b = some o → b ≠ L := fun e z => by rw [z, fL] at e; cases e
  refine wpAny_execs_cons (wpAny_Assign_Name (wpAny_Call_NameR (Mine.nm_bi X₁ (v := .type "type") (by kernel_rfl) (by kernel_rfl) (by decide) ?_)))
  refine PyProof.Rows.callWith_type1 ?_
  refine spliced_more (Mine.nm_loc ns (v := .bool false) (by kernel_rfl) ?_)
  refine spliced_none (x_rule x_typeB X₁.k fun tk₂ => ?_)
  refine wpAny_storeName_local (by kernel_rfl) ns (fun h₂ ns₂ hs₂ => ?_) rfl
  refine norm_sa (h := h₂) (g := s.gens) (d := s.drawn) (o := s.os) ?_
  intro tkn
  have k₂ : Keep s.heap h₂ := fun b o e => hs₂.extBut b o (sL e) (k₁ _ _ e)
  refine wpAny_execs_cons (wpAny_If (PyProof.Rows.isTrue_or (wpAny_isTrue_Compare1 (Mine.nm_loc ns₂ (v := .bool false) (by kernel_rfl) (wpAny_Constant_none (PySem.is_none ?_))))))
  refine wpAny_truthy_bool (ite_p (fun e => ?_) (fun _ => ?_))
  · rw [show (Value.bool false == Value.none) = false from by kernel_rfl] at e; cases e
  refine PyProof.Rows.isTrue_or (wpAny_isTrue_Compare1 (Mine.nm_loc ns₂ (v := .type "bool") (by kernel_rfl) (Mine.nm_bi (X.keeps k₂) (v := .type "bool") (by kernel_rfl) (by kernel_rfl) (by decide) ?_)))
  refine e_pure (wpAny_truthy_bool (ite_p (fun _ => ?_) (fun e => ?_)))
  · refine wpAny_execs_cons (wpAny_Return_some (PyProof.Rows.IfExp_ (PyProof.Rows.isTrue_plain (Mine.nm_loc ns₂ (v := .bool false) (by kernel_rfl) (wpAny_truthy_bool (ite_p (fun e => by cases e) (fun _ => ?_)))))))
    exact wpAny_Constant_bool (hQ _ _ k₂)
  · rw [tyB] at e; cases e
theorem bfd_spec {b : Array UInt8} {t : Tok} (X : Cx w s.heap) (hA : OkA A 690 400)
    (hQ : ∀ h' tk, Keep s.heap h' → Q (.bytes b t) { s with heap := h', toks := tk }) :
    wpAny (model PySem.Challenge.rw_qh0048_01.row.prog w) A (call (.ref 36) [.bytes b t]) Q E s := by
  refine enterP (binds := [(Str.ofString "s", .bytes b t)]) X rfl (by kernel_rfl) (Nat.lt_of_le_of_lt hA.depth (Nat.le_of_ble_eq_true rfl)) (BindsTo.of_eq rfl) (locs (by kernel_rfl)) rfl rfl rfl (by decide) fun L h₁ tk k₁ fL ns => ?_
  have X₁ : Cx w h₁ := X.keeps k₁
  refine wpAny_execs_cons (wpAny_If (PyProof.Rows.isTrue_plain (wpAny_Call_NameR (Mine.nm_bi X₁ (v := .builtin "isinstance") (by kernel_rfl) (by kernel_rfl) (by decide) ?_))))
  refine PyProof.Rows.callWith_builtin1 ?_
  refine spliced_more (Mine.nm_loc ns (v := .bytes b t) (by kernel_rfl) ?_)
  refine spliced_more (Mine.nm_bi X₁ (v := .type "str") (by kernel_rfl) (by kernel_rfl) (by decide) ?_)
  refine spliced_none (x_rule x_isi1 X₁.k fun tk₂ => ?_)
  refine wpAny_truthy_bool (ite_p (fun e => by cases e) (fun _ => ?_))
  refine wpAny_execs_nil ?_
  refine wpAny_execs_cons (wpAny_If (PyProof.Rows.isTrue_plain (wpAny_Call_NameR (Mine.nm_bi X₁ (v := .builtin "isinstance") (by kernel_rfl) (by kernel_rfl) (by decide) ?_))))
  refine PyProof.Rows.callWith_builtin1 ?_
  refine spliced_more (Mine.nm_loc ns (v := .bytes b t) (by kernel_rfl) ?_)
  refine spliced_more (Mine.nm_glob X₁ (v := .ref 29) (by kernel_rfl) ?_)
  refine spliced_none (x_rule x_isi2 X₁.k fun tk₃ => ?_)
  refine wpAny_truthy_bool (ite_p (fun _ => ?_) (fun e => by cases e))
  exact wpAny_execs_cons (wpAny_Return_some (Mine.nm_loc ns (v := .bytes b t) (by kernel_rfl) (hQ _ _ k₁)))
end
def val64 (x : Int) : Int := if 65 ≤ x ∧ x ≤ 90 then x - 65 else if 97 ≤ x ∧ x ≤ 122 then x - 71 else if 48 ≤ x ∧ x ≤ 57 then x + 4 else if x = 43 then 62 else if x = 47 then 63 else 64
theorem val_spec {w : World} {A : Around} {s : Shared} {Q E : Value → Shared → Prop} {x : Int} {t : Tok} (C : Cx w s.heap) (hA : OkA A 690 400)
    (h : ∀ h' tk t', Keep s.heap h' → Q (.int (val64 x) t') { s with heap := h', toks := tk }) :
    wpAny (model PySem.Challenge.rw_qh0048_01.row.prog w) A (call (.ref 77) [.int x t]) Q E s := by
  refine hA.wp fun l => ?_
  have X := C.k
  revert X; k_fill; intro X
  w_on
  refine' enter (by assumption) ?k6 ?k7 ?k8 ?k9 ?kB ?c2 ?c3 ?c4 ?c5 ?_; (case k6 => k_is); (case k7 => k_is); (case k8 => exact Nat.le_of_ble_eq_true rfl);
  (case k9 => exact BindsTo.of_eq rfl); (case kB => exact locs rfl); (case c2 => rfl); (case c3 => rfl); (case c4 => rfl); (case c5 => decide);
  intro g' L' h' kg' kb' F' N' X' T'; obtain ⟨_, _, _, _, T'⟩ := T'; (try dsimp only)
  have fin : ∀ (y : Int) (h'' : Heap) (tk : Nat) (t' : Tok) (m : Str → Option Value), Fr g' L' h'' m → y = val64 x → Q (.int y t') { s with heap := h'', toks := tk } :=
    fun y h'' tk t' m F e => e ▸ h h'' tk t' (kg'.trans F.keep)
  k_steps
  all_goals exact fin _ _ _ _ _ (by assumption) (by unfold val64; (repeat' split) <;> lia)
/-- three octets, the lowest first -/
def low (x : Int) : List UInt8 := [(x.fmod 256).toNat.toUInt8, ((x.fdiv 256).fmod 256).toNat.toUInt8, ((x.fdiv 65536).fmod 256).toNat.toUInt8]
theorem low_spec {w : World} {A : Around} {s : Shared} {Q E : Value → Shared → Prop} {x : Int} {t : Tok} (X : Cx w s.heap) (hA : OkA A 690 400)
    (hQ : ∀ h' tk t', Keep s.heap h' → Q (.bytes (low x).toArray t') { s with heap := h', toks := tk }) :
    wpAny (model PySem.Challenge.rw_qh0048_01.row.prog w) A (call (.ref 132) [.int x t]) Q E s := by
  refine enterP (binds := [(Str.ofString "n", .int x t)]) X rfl (by kernel_rfl) (Nat.lt_of_le_of_lt hA.depth (Nat.le_of_ble_eq_true rfl)) (BindsTo.of_eq rfl) (locs (by kernel_rfl)) rfl rfl rfl (by decide) fun L h₁ tk k₁ fL ns => ?_
  have X₁ : Cx w h₁ := X.keeps k₁
  refine wpAny_execs_cons (wpAny_Return_some (wpAny_Call_NameR (Mine.nm_bi X₁ (v := .type "bytes") (by kernel_rfl) (by kernel_rfl) (by decide) ?_)))
  refine PyProof.Rows.callWith_type1 ?_
  refine spliced_more (wpAny_List_spliced ?_)
  refine spliced_more (wpAny_BinOp (Mine.nm_loc ns (v := .int x t) (by kernel_rfl) (wpAny_Constant_int (PyProof.Rows.mod_int (by decide) ?_))))
  refine spliced_more (wpAny_BinOp (wpAny_BinOp (Mine.nm_loc ns (v := .int x t) (by kernel_rfl) (wpAny_Constant_int (PyProof.Rows.floordiv_int (by decide) ?_ (.inl (PyProof.noPylong_small (by decide))))))))
  refine wpAny_Constant_int (PyProof.Rows.mod_int (by decide) ?_)
  refine spliced_more (wpAny_BinOp (wpAny_BinOp (Mine.nm_loc ns (v := .int x t) (by kernel_rfl) (wpAny_Constant_int (PyProof.Rows.floordiv_int (by decide) ?_ (.inl (PyProof.noPylong_small (by decide))))))))
  refine wpAny_Constant_int (PyProof.Rows.mod_int (by decide) ?_)
  refine spliced_none ⟨by rw [sizeLine_eq]; exact Nat.le_of_ble_eq_true rfl, ?_⟩
  refine spliced_none ?_
  have m : ∀ y : Int, 0 ≤ y.fmod 256 ∧ y.fmod 256 < 256 := fun y => by rw [Int.fmod_eq_emod_of_nonneg _ (by decide)]; exact ⟨Int.emod_nonneg _ (by decide), Int.emod_lt_of_pos _ (by decide)⟩
  refine call_bytes_ints (A := A.deeper _) (ns := [x.fmod 256, (x.fdiv 256).fmod 256, (x.fdiv 65536).fmod 256]) ⟨_, Heap.get?_push_size _ rfl, rfl, _, rfl⟩ (.cons _ _ (.cons _ _ (.cons _ _ .nil))) ?_ (by rw [sizeLine_eq]; exact Nat.le_of_ble_eq_true rfl) hA.handled fun h' t' k kp => ?_
  · intro n hn
    rcases List.mem_cons.mp hn with rfl | hn
    · exact m _
    rcases List.mem_cons.mp hn with rfl | hn
    · exact m _
    rw [List.mem_singleton.mp hn]; exact m _
  · exact hQ h' _ t' (k₁.trans fun b o e => kp b o (Heap.get?_push_of_some _ e))
end Mine
end

section
open PySem PySem.W PySem.W.X PyProof.Rows PySem.Calls
namespace Mine
variable [Inhabited Base]
/-- the sign that is laid -/
def emit (lc sh : Nat) : UInt8 := sgn (lc / 2 ^ sh % 64)
def alpha : List UInt8 := (List.range 64).map sgn
theorem alpha_at : ∀ f : Fin 64, alpha.getD f.val 0 = sgn f.val := by decide +kernel
def b2step (st : Nat × Nat × List UInt8) (b : UInt8) : Nat × Nat × List UInt8 :=
  let lc := (st.2.1 * 256 + b.toNat) % 65536
  if st.1 ≥ 4 then (0, lc, st.2.2 ++ [emit lc (st.1 + 2), emit lc 0]) else (st.1 + 2, lc, st.2.2 ++ [emit lc (st.1 + 2)])
def b2st (bl : List UInt8) : Nat × Nat × List UInt8 := bl.foldl b2step (0, 0, [])
theorem b2st_snoc (bl : List UInt8) (b : UInt8) : b2st (bl ++ [b]) = b2step (b2st bl) b := by simp [b2st]
theorem b2st_ok (bl : List UInt8) : ((b2st bl).1 = 0 ∨ (b2st bl).1 = 2 ∨ (b2st bl).1 = 4) ∧ (b2st bl).2.1 < 65536 ∧ (b2st bl).2.2.length ≤ 2 * bl.length := by
  suffices h : ∀ (l : List UInt8) (st : Nat × Nat × List UInt8), (st.1 = 0 ∨ st.1 = 2 ∨ st.1 = 4) → st.2.1 < 65536 → ((l.foldl b2step st).1 = 0 ∨ (l.foldl b2step st).1 = 2 ∨ (l.foldl b2step st).1 = 4) ∧ (l.foldl b2step st).2.1 < 65536 ∧ (l.foldl b2step st).2.2.length ≤ st.2.2.length + 2 * l.length by
    have := h bl (0, 0, []) (.inl rfl) (by decide)
    simpa [b2st] using this
  intro l
  induction l with
  | nil => intro st h1 h2; exact ⟨h1, h2, by simp⟩
  | cons b l ih =>
    intro st h1 h2
    have key : ((b2step st b).1 = 0 ∨ (b2step st b).1 = 2 ∨ (b2step st b).1 = 4) ∧ (b2step st b).2.1 < 65536 ∧ (b2step st b).2.2.length ≤ st.2.2.length + 2 := by
      unfold b2step
      dsimp only
      split
      · refine ⟨.inl rfl, Nat.mod_lt _ (by decide), by simp⟩
      · refine ⟨by show st.1 + 2 = 0 ∨ _; lia, Nat.mod_lt _ (by decide), by simp⟩
    have := ih (b2step st b) key.1 key.2.1
    refine ⟨this.1, this.2.1, Nat.le_trans this.2.2 ?_⟩
    have := key.2.2
    simp only [List.length_cons]; lia
section
variable {w : World} {A : Around} {E Q : Value → Shared → Prop} {s : Shared} {Q : Value → Shared → Prop} {t u : Tok}
theorem shl3 {a n : Nat} {c : Int} (hn : n ≤ 1000000) (ha : a < 2 ^ 64) (e : ((a * 2 ^ n : Nat) : Int) = c) (h : ∀ tk t', Q (.int c t') { s with toks := tk }) : wpAny (model PySem.Challenge.rw_qh0048_01.row.prog w) A (binaryOp .LShift (.int a t) (.int n u)) Q E s :=
  PyProof.Rows.lshift_int_small (Int.natCast_nonneg _) (by lia) (by lia) (by rw [show ((a : Int) * 2 ^ ((n : Int)).toNat) = c by rw [← e, Int.toNat_natCast]; push_cast; rfl]; exact h _ _)
theorem shr3 {a n : Nat} {c : Int} (e : ((a / 2 ^ n : Nat) : Int) = c) (h : ∀ tk t', Q (.int c t') { s with toks := tk }) : wpAny (model PySem.Challenge.rw_qh0048_01.row.prog w) A (binaryOp .RShift (.int a t) (.int n u)) Q E s :=
  PyProof.Rows.rshift_int (Int.natCast_nonneg _) (by rw [show ((a : Int).fdiv (2 ^ ((n : Int)).toNat)) = c by rw [← e, Int.toNat_natCast, Int.fdiv_eq_ediv_of_nonneg _ (by exact Int.le_of_lt (Int.pow_pos (by decide)))]; push_cast; rfl]; exact h _ _)
theorem and3 {a b : Nat} {c : Int} (e : ((a &&& b : Nat) : Int) = c) (h : ∀ tk t', Q (.int c t') { s with toks := tk }) : wpAny (model PySem.Challenge.rw_qh0048_01.row.prog w) A (binaryOp .BitAnd (.int a t) (.int b u)) Q E s :=
  PyProof.Rows.and_int (by rw [PyProof.Rows.bitAnd_pp (Int.natCast_nonneg _) (Int.natCast_nonneg _), Int.toNat_natCast, Int.toNat_natCast, e]; exact h _ _)
theorem bor_pp (a b : Nat) : Builtin.bitOr a b = ((a ||| b : Nat) : Int) := by
  unfold Builtin.bitOr
  rw [PyProof.Rows.bitAnd_nn (by unfold Builtin.bitNot; lia) (by unfold Builtin.bitNot; lia)]
  unfold Builtin.bitNot
  have e1 : (-(-(a : Int) - 1) - 1).toNat = a := by lia
  have e2 : (-(-(b : Int) - 1) - 1).toNat = b := by lia
  rw [e1, e2]; lia
theorem or3 {a b : Nat} {c : Int} (e : ((a ||| b : Nat) : Int) = c) (h : ∀ tk t', Q (.int c t') { s with toks := tk }) : wpAny (model PySem.Challenge.rw_qh0048_01.row.prog w) A (binaryOp .BitOr (.int a t) (.int b u)) Q E s :=
  PyProof.Rows.or_int (by rw [bor_pp, e]; exact h _ _)
theorem or_byte (a b : Nat) (h : b < 256) : a * 256 ||| b = a * 256 + b := by
  have := Nat.shiftLeft_add_eq_or_of_lt (i := 8) (b := b) (by simpa using h) a
  rw [Nat.shiftLeft_eq] at this
  simpa using this.symm
theorem and_16 (a : Nat) : a &&& 65535 = a % 65536 := Nat.and_two_pow_sub_one_eq_mod a 16
theorem and_6 (a : Nat) : a &&& 63 = a % 64 := Nat.and_two_pow_sub_one_eq_mod a 6
end
end Mine
end

section
open PySem PySem.W PySem.W.X PyProof.Rows PySem.Calls
namespace Mine
variable [Inhabited Base]
section
variable {w : World} {A : Around} {E Q : Value → Shared → Prop} {s : Shared}
theorem bytes_iter {b : Array UInt8} {t : Tok} (hh : A.handled = none)
    (h : ∀ I St h₂, Walks PySem.Challenge.rw_qh0048_01.row.prog w A I [I] [I] b.size (fun i v => ∃ c u, b[i]? = some c ∧ v = .int (c.toNat : Int) u) St → St 0 h₂ → s.heap.get? I = none → Keep s.heap h₂ → Q (.ref I) { s with heap := h₂ }) :
    wpAny (model PySem.Challenge.rw_qh0048_01.row.prog w) A (pyIter (.bytes b t)) Q E s := by
  refine KBw.pyIter_bytes ?_
  exact h s.heap.objs.size _ _ (KBw.walks hh _ b t) ⟨_, Heap.get?_push_size _ rfl, rfl, rfl⟩ (get_size_none _) (fun b o e => Heap.get?_push_of_some _ e)
def numsU (l : List UInt8) : List Int := l.map fun c => (c.toNat : Int)
theorem numsU_snoc (l : List UInt8) (c : UInt8) : numsU (l ++ [c]) = numsU l ++ [(c.toNat : Int)] := by simp [numsU]
theorem byteArr_numsU (l : List UInt8) : byteArr (numsU l) = l.toArray := by
  unfold byteArr numsU
  rw [List.map_map]
  congr 1
  conv => rhs; rw [← List.map_id l]
  exact List.map_congr_left fun c _ => by simp
theorem nums_in (l : List UInt8) : ∀ n ∈ numsU l, 0 ≤ n ∧ n < 256 := by
  intro n hn
  obtain ⟨c, _, rfl⟩ := List.mem_map.mp hn
  exact ⟨Int.natCast_nonneg _, Int.ofNat_lt.mpr (UInt8.toNat_lt c)⟩
/-- a plain list of octets -/
def OctL (h : Heap) (D : Addr) (l : List UInt8) : Prop := ∃ vs : List Value, h.PlainList D vs.toArray ∧ IntsAre vs (numsU l)
theorem OctL.at' {h h' : Heap} {D : Addr} {l : List UInt8} (x : OctL h D l) (k : ∀ o, h.get? D = some o → h'.get? D = some o) : OctL h' D l := let ⟨vs, a, b⟩ := x; ⟨vs, a.at fun o e => k o e, b⟩
theorem oct_append {D : Addr} {l : List UInt8} {c : UInt8} {t : Tok} {Q : Value → Shared → Prop} (x : OctL s.heap D l) (hl : l.length ≤ 1000)
    (hQ : ∀ h', OctL h' D (l ++ [c]) → Heap.SameBut D s.heap h' → Q .none { s with heap := h' }) :
    wpAny (model PySem.Challenge.rw_qh0048_01.row.prog w) A (call (.builtin "list.append") [.ref D, .int (c.toNat : Int) t]) Q E s := by
  obtain ⟨vs, a, b⟩ := x
  have hv : vs.length = l.length := by rw [b.length]; simp [numsU]
  refine wpAny_list_append_plain (hsz := by rw [sizeLine_eq]; simp; lia) a fun h₇ o7 hs7 => hQ h₇ ⟨vs ++ [.int (c.toNat : Int) t], ?_, ?_⟩ hs7
  · rw [List.push_toArray] at o7; exact o7
  · rw [numsU_snoc]; exact b.append (.cons _ _ .nil)
theorem oct_bytes {D : Addr} {l : List UInt8} {Q : Value → Shared → Prop} (hh : A.handled = none) (x : OctL s.heap D l) (hl : l.length ≤ 1000)
    (hQ : ∀ h' t k, Keep s.heap h' → Q (.bytes l.toArray t) { s with heap := h', toks := k }) : wpAny (model PySem.Challenge.rw_qh0048_01.row.prog w) A (call (.type "bytes") [.ref D]) Q E s := by
  obtain ⟨vs, a, b⟩ := x
  have hv : vs.length = l.length := by rw [b.length]; simp [numsU]
  refine call_bytes_ints a.isList b (nums_in l) (by rw [sizeLine_eq]; lia) hh fun h' t k kp => ?_
  rw [byteArr_numsU]
  exact hQ h' t k kp
theorem oct_meth {D : Addr} {l : List UInt8} {pl : Sem Bool} {Q : Value × List Value → Shared → Prop} (x : OctL s.heap D l) (h : Q (.builtin "list.append", [.ref D]) s) :
    wpAny (model PySem.Challenge.rw_qh0048_01.row.prog w) A (getMethod (.ref D) "append" pl) Q E s := by
  obtain ⟨vs, ⟨n, o⟩, _⟩ := x
  exact getMethod_list_append o rfl rfl h
theorem list0 {pos : Pos} {env : Env} {Q : Value → Shared → Prop} (hQ : ∀ h' D, Keep s.heap h' → s.heap.get? D = none → OctL h' D [] → Q (.ref D) { s with heap := h' }) :
    wpAny (model PySem.Challenge.rw_qh0048_01.row.prog w) A (eval (.List [] pos) env) Q E s := by
  refine e_eq (arm_eval_List _ _ _) ?_
  refine e_at ?_
  refine e_bindp () rfl ?_
  refine e_bindp [] rfl ?_
  refine wpAny_newList ?_ (by rw [sizeLine_eq]; exact Nat.zero_le _)
  exact hQ _ _ (fun b o e => Heap.get?_push_of_some _ e) (get_size_none _) ⟨[], ⟨0, Heap.get?_push_size _ rfl⟩, .nil⟩
/-- the states of the inner loop -/
def Wh (lb lc : Nat) (out : List UInt8) (x : Nat) (o : List UInt8) : Prop := (x = lb + 8 ∧ o = out) ∨ (x = lb + 2 ∧ o = out ++ [emit lc (lb + 2)]) ∨ (lb ≥ 4 ∧ x = 0 ∧ o = out ++ [emit lc (lb + 2), emit lc 0])
theorem wh_step {lb lc x : Nat} {out o : List UInt8} (h : Wh lb lc out x o) (hl : lb = 0 ∨ lb = 2 ∨ lb = 4) (hx : x ≥ 6) : Wh lb lc out (x - 6) (o ++ [emit lc (x - 6)]) := by
  rcases h with ⟨rfl, rfl⟩ | ⟨rfl, rfl⟩ | ⟨_, rfl, _⟩
  · exact .inr (.inl ⟨by lia, by rw [show lb + 8 - 6 = lb + 2 by lia]⟩)
  · have : lb = 4 := by lia
    subst this
    exact .inr (.inr ⟨by lia, rfl, by simp⟩)
  · lia
theorem wh_end {st : Nat × Nat × List UInt8} {x : Nat} {o : List UInt8} {c : UInt8} (h : Wh st.1 ((st.2.1 * 256 + c.toNat) % 65536) st.2.2 x o) (hx : x < 6) : b2step st c = (x, (st.2.1 * 256 + c.toNat) % 65536, o) := by
  unfold b2step
  dsimp only
  rcases h with ⟨h1, h2⟩ | ⟨h1, h2⟩ | ⟨h4, h1, h2⟩
  · lia
  · rw [if_neg (by lia), h1, h2]
  · rw [if_pos h4, h1, h2]
theorem wh_len {lb lc x : Nat} {out o : List UInt8} (h : Wh lb lc out x o) : o.length ≤ out.length + 2 := by
  rcases h with ⟨_, rfl⟩ | ⟨_, rfl⟩ | ⟨_, _, rfl⟩ <;> simp
theorem emit_at (lc sh : Nat) : alpha.getD (((lc / 2 ^ sh % 64 : Nat) : Int)).toNat 0 = emit lc sh := by
  rw [Int.toNat_natCast]
  exact alpha_at ⟨_, Nat.mod_lt _ (by decide)⟩
/-- what one octet of the walk leaves -/
structure B2J (g h : Heap) (D : Addr) (m : Str → Option Value) (st : Nat × Nat × List UInt8) : Prop where
  keep : Keep g h
  out : m (Str.ofString "out") = some (.ref D)
  nl : m (Str.ofString "newline") = some (.bool false)
  lb : ∃ t1, m (Str.ofString "leftbits") = some (.int ((st.1 : Nat) : Int) t1)
  lc : ∃ t2, m (Str.ofString "leftchar") = some (.int ((st.2.1 : Nat) : Int) t2)
  oct : OctL h D st.2.2
/-- what one turn of the inner loop leaves -/
structure B2W (g0 hI : Heap) (L D I : Addr) (st : Nat × Nat × List UInt8) (lc' : Nat) (g : Heap) (mg : Str → Option Value) (x : Nat) (o' : List UInt8) (tx : Tok) : Prop where
  ns : g.Ns L mg
  keep : Keep g0 g
  it : ∀ o, hI.get? I = some o → g.get? I = some o
  out : mg (Str.ofString "out") = some (.ref D)
  nl : mg (Str.ofString "newline") = some (.bool false)
  lb : mg (Str.ofString "leftbits") = some (.int ((x : Nat) : Int) tx)
  lc : ∃ tc, mg (Str.ofString "leftchar") = some (.int ((lc' : Nat) : Int) tc)
  oct : OctL g D o'
  wh : Wh st.1 lc' st.2.2 x o'
theorem b2a_spec {bl : List UInt8} {t : Tok} (X : Cx w s.heap) (hA : OkA A 650 300) (hl : bl.length ≤ 100) (hfin : (b2st bl).1 = 0)
    (hQ : ∀ h' tk t', Keep s.heap h' → Q (.bytes (b2st bl).2.2.toArray t') { s with heap := h', toks := tk }) :
    wpAny (model PySem.Challenge.rw_qh0048_01.row.prog w) A (call (.ref 93) [.bytes bl.toArray t] [(Str.ofString "newline", .bool false)]) Q E s := by
  refine enterP (binds := [(Str.ofString "data", .bytes bl.toArray t), (Str.ofString "newline", .bool false)]) X rfl (by kernel_rfl) (Nat.lt_of_le_of_lt hA.depth (Nat.le_of_ble_eq_true rfl)) ?hb (locs (by kernel_rfl)) rfl rfl rfl (by decide) fun L h₁ tk k₁ fL ns => ?_
  case hb => exact BindsTo.of_eq rfl
  have X₁ : Cx w h₁ := X.keeps k₁
  have sL : ∀ {b : Addr} {o : Obj}, s.heap.get? b = some o → b ≠ L := fun e z => by rw [z, fL] at e; cases e
  refine wpAny_execs_cons (wpAny_Assign_Name (call_fn (a := 63) X₁ (by kernel_rfl) (by kernel_rfl) ?_ (by kernel_rfl) (by kernel_rfl) (by kernel_rfl) (by kernel_rfl)))
  refine spliced_more (Mine.nm_loc ns (v := .bytes bl.toArray t) rfl ?_)
  refine spliced_none ⟨X₁.k, ?_⟩
  refine buf_spec (s := ⟨h₁, _, _, _, _⟩) X₁ (hA.deeper.mono (Nat.le_of_ble_eq_true rfl) (Nat.le_of_ble_eq_true rfl)) fun h₂ tk₂ k₂ => ?_
  have nn : ∀ {h : Heap} {m : Str → Option Value}, h.Ns L m → Pl h L := fun n => Pl.ns n
  refine wpAny_storeName_local (by kernel_rfl) (ns.keeps k₂) (fun h₃ ns₃ hs₃ => ?_) rfl
  refine norm_sa (h := h₃) (g := s.gens) (d := s.drawn) (o := s.os) ?_
  intro tkn
  replace hs₃ : Heap.SameBut L h₂ h₃ := hs₃
  have k₃ : Keep s.heap h₃ := fun b o e => hs₃.extBut b o (sL e) (k₂ _ _ (k₁ _ _ e))
  have X₃ : Cx w h₃ := X.keeps k₃
  refine wpAny_execs_cons (wpAny_Assign_Name (call_fn (a := 70) X₃ (by kernel_rfl) (by kernel_rfl) ?_ (by kernel_rfl) (by kernel_rfl) (by kernel_rfl) (by kernel_rfl)))
  refine spliced_more (Mine.nm_loc ns₃ (v := .bool false) (by kernel_rfl) ?_)
  refine spliced_none ⟨X₃.k, ?_⟩
  refine truth_spec (s := ⟨h₃, _, _, _, _⟩) X₃ (hA.deeper.mono (Nat.le_of_ble_eq_true rfl) (Nat.le_of_ble_eq_true rfl)) fun h₄ tk₄ k₄ => ?_
  refine wpAny_storeName_local (by kernel_rfl) (ns₃.keeps k₄) (fun h₅ ns₅ hs₅ => ?_) rfl
  refine norm_sa (h := h₅) (g := s.gens) (d := s.drawn) (o := s.os) ?_
  intro tkn
  replace hs₅ : Heap.SameBut L h₄ h₅ := hs₅
  have k₅ : Keep s.heap h₅ := fun b o e => hs₅.extBut b o (sL e) (k₄ _ _ (k₃ _ _ e))
  refine wpAny_execs_cons (wpAny_Assign_Name (list0 fun h₆ D k₆ fD oD => ?_))
  have sD : ∀ {b : Addr} {o : Obj}, h₅.get? b = some o → b ≠ D := fun e z => by
    have fD' : h₅.get? D = none := fD
    rw [z, fD'] at e; cases e
  have nDL : D ≠ L := by obtain ⟨o, _, _, e, _⟩ := ns₅; exact fun z => sD e z.symm
  refine wpAny_storeName_local (by kernel_rfl) (ns₅.keeps k₆) (fun h₇ ns₇ hs₇ => ?_) rfl
  refine norm_sa (h := h₇) (g := s.gens) (d := s.drawn) (o := s.os) ?_
  intro tkn
  replace hs₇ : Heap.SameBut L h₆ h₇ := hs₇
  have k₇ : Keep s.heap h₇ := fun b o e => hs₇.extBut b o (sL e) (k₆ _ _ (k₅ _ _ e))
  have oD₇ : OctL h₇ D [] := oD.at' fun o e => hs₇.extBut D o nDL e
  refine wpAny_execs_cons (wpAny_Assign_Name (wpAny_Constant_int ?_))
  refine wpAny_storeName_local (by kernel_rfl) ns₇ (fun h₈ ns₈ hs₈ => ?_) rfl
  refine norm_sa (h := h₈) (g := s.gens) (d := s.drawn) (o := s.os) ?_
  intro tkn
  replace hs₈ : Heap.SameBut L h₇ h₈ := hs₈
  refine wpAny_execs_cons (wpAny_Assign_Name (wpAny_Constant_int ?_))
  refine wpAny_storeName_local (by kernel_rfl) ns₈ (fun h₉ ns₉ hs₉ => ?_) rfl
  refine norm_sa (h := h₉) (g := s.gens) (d := s.drawn) (o := s.os) ?_
  intro tkn
  replace hs₉ : Heap.SameBut L h₈ h₉ := hs₉
  have k₉ : Keep s.heap h₉ := fun b o e => hs₉.extBut b o (sL e) (hs₈.extBut b o (sL e) (k₇ _ _ e))
  have oD₉ : OctL h₉ D [] := oD₇.at' fun o e => hs₉.extBut D o nDL (hs₈.extBut D o nDL e)
  refine wpAny_execs_cons ?_
  refine wpAny_For (Mine.nm_loc ns₉ (v := .bytes bl.toArray t) (by kernel_rfl) (bytes_iter (A := A.deeper _) hA.handled fun I St h₁₀ W st0 fI k₁₀ => ?_)) (fun _ => rfl)
  have sI : ∀ {b : Addr} {o : Obj}, h₉.get? b = some o → b ≠ I := fun e z => by
    have fI' : h₉.get? I = none := fI
    rw [z, fI'] at e; cases e
  have nIL : I ≠ L := by obtain ⟨o, _, _, e, _⟩ := ns₉; exact fun z => sI e z.symm
  have nID : I ≠ D := by obtain ⟨vs, ⟨n, e⟩, _⟩ := oD₉; exact fun z => sI e z.symm
  refine norm_sc (h := h₁₀) (g := s.gens) (d := s.drawn) (o := s.os) ?_
  intro tkn
  refine for_walk W rfl rfl ?hL (fun k h m => B2J s.heap h D m (b2st (bl.take k)))
    st0 (ns₉.keeps k₁₀) ⟨fun b o e => k₁₀ _ _ (k₉ _ _ e), by kernel_rfl, by kernel_rfl, ⟨_, (if_neg (by decide)).trans (if_pos rfl)⟩, ⟨_, if_pos rfl⟩, oD₉.at' fun o e => k₁₀ _ _ e⟩ ?turn ?done
  case hL => exact fun z => nIL (List.mem_singleton.mp z).symm
  case turn =>
    rintro k v h₀ h tk' m hk ⟨c, u, hc, rfl⟩ ⟨kh, mo, mn, ⟨t1, mb⟩, ⟨t2, ml⟩, ol⟩ nsL rel st ns'
    refine norm_sa (h := h) (g := s.gens) (d := s.drawn) (o := s.os) ?_
    intro tkn
    have rel' : ∀ b o, b ≠ I → b ≠ L → h₀.get? b = some o → h.get? b = some o := fun b o hb hb2 e => rel b o (fun z => hb (List.mem_singleton.mp z)) hb2 e
    have nI : ∀ {b : Addr} {o : Obj}, s.heap.get? b = some o → b ≠ I := fun e => sI (k₉ _ _ e)
    replace kh : Keep s.heap h := fun b o e => rel' b o (nI e) (sL e) (kh b o e)
    replace ol := ol.at' fun o e => rel' D o (Ne.symm nID) nDL e
    have hk' : k < bl.length := by simpa using hk
    have hc' : bl[k]? = some c := by simpa using hc
    have ek : bl.take (k + 1) = bl.take k ++ [c] := by rw [List.take_add_one, hc']; rfl
    have nx : b2st (bl.take (k + 1)) = b2step (b2st (bl.take k)) c := by rw [ek, b2st_snoc]
    have ok := b2st_ok (bl.take k)
    have lk : (bl.take k).length ≤ 100 := by rw [List.length_take]; lia
    replace ns' : h.Ns L (fun y => if y = Str.ofString "b" then some (.int (c.toNat : Int) u) else m y) := ns'
    refine wpAny_execs_cons (wpAny_Assign_Name (wpAny_BinOp (wpAny_BinOp (wpAny_BinOp (Mine.nm_loc ns' ((if_neg (by decide)).trans ml) (wpAny_Constant_int (shl3 (n := 8) (c := (((b2st (bl.take k)).2.1 * 256 : Nat) : Int)) (by lia) (by lia) rfl fun tk₁ u₁ => Mine.nm_loc ns' (if_pos rfl) (or3 (c := (((b2st (bl.take k)).2.1 * 256 + c.toNat : Nat) : Int)) (by rw [or_byte _ _ (UInt8.toNat_lt c)]) fun tk₂ u₂ => wpAny_Constant_int (and3 (b := 65535) (c := ((((b2st (bl.take k)).2.1 * 256 + c.toNat) % 65536 : Nat) : Int)) (by rw [and_16]) fun tk₃ u₃ => ?_)))))))))
    refine wpAny_storeName_local (by kernel_rfl) ns' (fun g₁ n₁ r₁ => ?_) rfl
    refine norm_sa (h := g₁) (g := s.gens) (d := s.drawn) (o := s.os) ?_
    intro tkn
    replace r₁ : Heap.SameBut L h g₁ := r₁
    replace n₁ : g₁.Ns L (fun y => if y = Str.ofString "leftchar" then some (.int ((((b2st (bl.take k)).2.1 * 256 + c.toNat) % 65536 : Nat) : Int) u₃) else if y = Str.ofString "b" then some (.int (c.toNat : Int) u) else m y) := n₁
    refine wpAny_execs_cons (wpAny_Assign_Name (wpAny_BinOp (Mine.nm_loc n₁ ((if_neg (by decide)).trans ((if_neg (by decide)).trans mb)) (wpAny_Constant_int (add3 (c := (((b2st (bl.take k)).1 + 8 : Nat) : Int)) (by lia) fun tk₄ u₄ => ?_)))))
    refine wpAny_storeName_local (by kernel_rfl) n₁ (fun g₂ n₂ r₂ => ?_) rfl
    refine norm_sa (h := g₂) (g := s.gens) (d := s.drawn) (o := s.os) ?_
    intro tkn
    replace r₂ : Heap.SameBut L g₁ g₂ := r₂
    have b₂ : ∀ b o, b ≠ L → h.get? b = some o → g₂.get? b = some o := fun b o n e => r₂.extBut b o n (r₁.extBut b o n e)
    refine wpAny_execs_cons (wpAny_While (codeAny_whileLoop (fun n s' => ∃ g tkg mg x o' tx, s' = { s with heap := g, toks := tkg } ∧ n = x ∧ B2W s.heap h L D I (b2st (bl.take k)) (((b2st (bl.take k)).2.1 * 256 + c.toNat) % 65536) g mg x o' tx) ?wt ((b2st (bl.take k)).1 + 8)
      ⟨g₂, _, _, (b2st (bl.take k)).1 + 8, (b2st (bl.take k)).2.2, u₄, rfl, rfl, n₂, fun b o e => b₂ b o (sL e) (kh b o e), fun o e => b₂ I o nIL e, (if_neg (by decide)).trans ((if_neg (by decide)).trans ((if_neg (by decide)).trans mo)), (if_neg (by decide)).trans ((if_neg (by decide)).trans ((if_neg (by decide)).trans mn)), if_pos rfl, ⟨u₃, (if_neg (by decide)).trans (if_pos rfl)⟩, ol.at' fun o e => b₂ D o nDL e, .inl ⟨rfl, rfl⟩⟩))
    case wt =>
      rintro x s' ⟨g, tkg, mg, _, o', tx, rfl, rfl, nsg, kg, gI, eo, en, eb, ⟨tc, ec⟩, og, wh⟩
      refine wpAny_isTrue_Compare1 (Mine.nm_loc nsg eb (wpAny_Constant_int (PySem.P.ge_int (wpAny_truthy_bool (ite_p (fun hge => ?_) (fun hlt => ?_))))))
      · have hx : x ≥ 6 := by have := of_decide_eq_true hge; lia
        refine wpAny_execs_cons (wpAny_Expr (PyProof.Rows.MethodCall_ (Mine.nm_loc nsg eo ?_)))
        refine oct_meth og ?_
        refine PyProof.Rows.callWith_method1 ?_
        refine spliced_more (PyProof.Rows.Subscript_ (Mine.nm_glob (X.keeps kg) (v := .bytes alpha.toArray _) rfl (wpAny_BinOp (wpAny_BinOp (Mine.nm_loc nsg ec (wpAny_BinOp (Mine.nm_loc nsg eb (wpAny_Constant_int (sub3 (c := ((x - 6 : Nat) : Int)) (by lia) fun tk₅ u₅ => shr3 (c := ((((b2st (bl.take k)).2.1 * 256 + c.toNat) % 65536 / 2 ^ (x - 6) : Nat) : Int)) rfl fun tk₆ u₆ => wpAny_Constant_int (and3 (b := 63) (c := ((((b2st (bl.take k)).2.1 * 256 + c.toNat) % 65536 / 2 ^ (x - 6) % 64 : Nat) : Int)) (by rw [and_6]) fun tk₇ u₇ => ?_))))))))))
        refine KBy.item_N (by decide) (Int.natCast_nonneg _) (Int.ofNat_lt.mpr (Nat.mod_lt _ (by decide))) ?_
        refine spliced_none ?_
        refine oct_append og (by have := wh_len wh; lia) fun g₃ og₃ r₃ => ?_
        rw [emit_at] at og₃
        have n₃ := nsg.sameBut r₃ (Ne.symm nDL)
        refine wpAny_execs_cons (wpAny_Assign_Name (wpAny_BinOp (Mine.nm_loc n₃ eb (wpAny_Constant_int (sub3 (c := ((x - 6 : Nat) : Int)) (by lia) fun tk₈ u₈ => ?_)))))
        refine wpAny_storeName_local (by kernel_rfl) n₃ (fun g₄ n₄ r₄ => ?_) rfl
        refine norm_sa (h := g₄) (g := s.gens) (d := s.drawn) (o := s.os) ?_
        intro tkn
        replace r₄ : Heap.SameBut L g₃ g₄ := r₄
        refine wpAny_execs_nil ⟨x - 6, by lia, g₄, _, _, x - 6, _, u₈, rfl, rfl, n₄, fun b o e => r₄.extBut b o (sL e) (r₃.extBut b o (fun z => sD (k₅ _ _ e) z) (kg b o e)), fun o e => r₄.extBut I o nIL (r₃.extBut I o nID (gI o e)), (if_neg (by decide)).trans eo, (if_neg (by decide)).trans en, if_pos rfl, ⟨tc, (if_neg (by decide)).trans ec⟩, og₃.at' fun o e => r₄.extBut D o nDL e, wh_step wh ok.1 hx⟩
      · have hx : x < 6 := by have := of_decide_eq_false hlt; lia
        have es := wh_end wh hx
        rw [es] at nx
        refine wpAny_execs_nil (wpAny_execs_nil ⟨.inl rfl, g, _, mg, rfl, ?_, nsg, kg, eo, en, ⟨tx, by rw [nx]; exact eb⟩, ⟨tc, by rw [nx]; exact ec⟩, by rw [nx]; exact og⟩)
        intro b hb o e
        rw [List.mem_singleton.mp hb] at e ⊢
        exact gI o e
  case done =>
    rintro h₀ h tk' m ⟨kh, mo, mn, ⟨t1, mb⟩, ⟨t2, ml⟩, ol⟩ rel ns'
    refine norm_sa (h := h) (g := s.gens) (d := s.drawn) (o := s.os) ?_
    intro tkn
    have et : bl.take bl.toArray.size = bl := by simp
    rw [et] at mb ml ol
    rw [hfin] at mb
    have rel' : ∀ b o, b ≠ I → h₀.get? b = some o → h.get? b = some o := fun b o hb e => rel b o (fun z => hb (List.mem_singleton.mp z)) e
    have kh' : Keep s.heap h := fun b o e => rel' b o (sI (k₉ _ _ e)) (kh b o e)
    have ol' : OctL h D (b2st bl).2.2 := ol.at' fun o e => rel' D o (Ne.symm nID) e
    have lo := (b2st_ok bl).2.2
    refine wpAny_execs_cons (wpAny_If (wpAny_isTrue_Compare1 (Mine.nm_loc ns' mb (wpAny_Constant_int (PyProof.Rows.eq_int (wpAny_truthy_bool (ite_p (fun e => ?_) (fun _ => ?_))))))))
    · exact absurd e (by decide)
    refine wpAny_execs_cons (wpAny_If (wpAny_isTrue_Compare1 (Mine.nm_loc ns' mb (wpAny_Constant_int (PyProof.Rows.eq_int (wpAny_truthy_bool (ite_p (fun e => ?_) (fun _ => ?_))))))))
    · exact absurd e (by decide)
    refine wpAny_execs_nil (wpAny_execs_nil ?_)
    refine wpAny_execs_cons (wpAny_If (PyProof.Rows.isTrue_plain (Mine.nm_loc ns' mn (wpAny_truthy_bool (ite_p (fun e => ?_) (fun _ => ?_))))))
    · cases e
    refine wpAny_execs_nil ?_
    refine wpAny_execs_cons (wpAny_Return_some (wpAny_Call_NameR (Mine.nm_bi (X.keeps kh') (v := .type "bytes") (by kernel_rfl) (by kernel_rfl) (by decide) ?_)))
    refine PyProof.Rows.callWith_type1 ?_
    refine spliced_more (Mine.nm_loc ns' mo ?_)
    refine spliced_none (oct_bytes (A := A.deeper _) hA.handled ol' (by lia) fun h₂ t₂ k₂ kp => hQ _ _ _ (kh'.trans kp))
end
end Mine
end

section
open PySem PySem.W PySem.W.X PyProof.Rows PySem.Calls
namespace Mine
variable [Inhabited Base]
theorem val_sgn' : ∀ f : Fin 64, val64 ((sgn f.val).toNat : Int) = (f.val : Int) ∧ (sgn f.val).toNat ≠ 61 := by decide +kernel
theorem val_sgn {f : Nat} (h : f < 64) : val64 ((sgn f).toNat : Int) = (f : Int) := (val_sgn' ⟨f, h⟩).1
theorem sgn_ne {f : Nat} (h : f < 64) : (sgn f).toNat ≠ 61 := (val_sgn' ⟨f, h⟩).2
def a2step (st : Nat × Nat × List UInt8) (f : Nat) : Nat × Nat × List UInt8 :=
  if st.1 = 0 then (1, f, st.2.2) else if st.1 = 1 then (2, f % 16, st.2.2 ++ [UInt8.ofNat (st.2.1 * 4 + f / 16)]) else if st.1 = 2 then (3, f % 4, st.2.2 ++ [UInt8.ofNat (st.2.1 * 16 + f / 4)]) else (0, 0, st.2.2 ++ [UInt8.ofNat (st.2.1 * 64 + f)])
def a2st (fl : List Nat) : Nat × Nat × List UInt8 := fl.foldl a2step (0, 0, [])
theorem a2st_snoc (fl : List Nat) (f : Nat) : a2st (fl ++ [f]) = a2step (a2st fl) f := by simp [a2st]
def A2ok (st : Nat × Nat × List UInt8) : Prop := (st.1 = 0 ∨ st.1 = 1 ∧ st.2.1 < 64 ∨ st.1 = 2 ∧ st.2.1 < 16 ∨ st.1 = 3 ∧ st.2.1 < 4) ∧ st.2.1 < 64
theorem a2step_ok {st : Nat × Nat × List UInt8} {f : Nat} (h : A2ok st) (hf : f < 64) : A2ok (a2step st f) ∧ (a2step st f).2.2.length ≤ st.2.2.length + 1 := by
  unfold a2step
  obtain ⟨h1 | h1 | h1 | h1, h2⟩ := h
  · rw [if_pos h1]; exact ⟨⟨.inr (.inl ⟨rfl, hf⟩), hf⟩, by simp⟩
  · rw [if_neg (by omega), if_pos h1.1]; exact ⟨⟨.inr (.inr (.inl ⟨rfl, by show f % 16 < 16; omega⟩)), by show f % 16 < 64; omega⟩, by simp⟩
  · rw [if_neg (by omega), if_neg (by omega), if_pos h1.1]; exact ⟨⟨.inr (.inr (.inr ⟨rfl, by show f % 4 < 4; omega⟩)), by show f % 4 < 64; omega⟩, by simp⟩
  · rw [if_neg (by omega), if_neg (by omega), if_neg (by omega)]; exact ⟨⟨.inl rfl, by show 0 < 64; decide⟩, by simp⟩
theorem a2st_ok (fl : List Nat) (hf : ∀ f ∈ fl, f < 64) : A2ok (a2st fl) ∧ (a2st fl).2.2.length ≤ fl.length := by
  suffices h : ∀ (l : List Nat) (st : Nat × Nat × List UInt8), (∀ f ∈ l, f < 64) → A2ok st → A2ok (l.foldl a2step st) ∧ (l.foldl a2step st).2.2.length ≤ st.2.2.length + l.length by
    have := h fl (0, 0, []) hf ⟨.inl rfl, by decide⟩
    simpa [a2st] using this
  intro l
  induction l with
  | nil => intro st _ h; exact ⟨h, by simp⟩
  | cons f l ih =>
    intro st hl h
    have k := a2step_ok h (hl f (List.mem_cons_self ..))
    have := ih (a2step st f) (fun x hx => hl x (List.mem_cons_of_mem _ hx)) k.1
    refine ⟨this.1, Nat.le_trans this.2 ?_⟩
    have := k.2
    simp only [List.length_cons]; omega
theorem or_add (i a b : Nat) (h : b < 2 ^ i) : a * 2 ^ i ||| b = a * 2 ^ i + b := by
  have := Nat.shiftLeft_add_eq_or_of_lt (i := i) (b := b) h a
  rw [Nat.shiftLeft_eq] at this
  exact this.symm
theorem and_4 (a : Nat) : a &&& 15 = a % 16 := Nat.and_two_pow_sub_one_eq_mod a 4
theorem and_2 (a : Nat) : a &&& 3 = a % 4 := Nat.and_two_pow_sub_one_eq_mod a 2
theorem oct_appendN {w : World} {A : Around} {E : Value → Shared → Prop} {s : Shared} {D : Addr} {l : List UInt8} {n : Nat} {t : Tok} {Q : Value → Shared → Prop} (hn : n < 256) (x : OctL s.heap D l) (hl : l.length ≤ 1000)
    (hQ : ∀ h', OctL h' D (l ++ [UInt8.ofNat n]) → Heap.SameBut D s.heap h' → Q .none { s with heap := h' }) :
    wpAny (model PySem.Challenge.rw_qh0048_01.row.prog w) A (call (.builtin "list.append") [.ref D, .int (n : Int) t]) Q E s := by
  have e : (UInt8.ofNat n).toNat = n := by simp; omega
  have := oct_append (c := UInt8.ofNat n) (t := t) (w := w) (A := A) (E := E) x hl hQ
  rwa [e] at this
end Mine
end

section
open PySem PySem.W PySem.W.X PyProof.Rows PySem.Calls
namespace Mine
variable [Inhabited Base]
section
variable {w : World} {A : Around} {E Q : Value → Shared → Prop} {s : Shared}
theorem truthy0 {t : Tok} {Q : Bool → Shared → Prop} (h : Q false s) : wpAny (model PySem.Challenge.rw_qh0048_01.row.prog w) A (truthy (.int 0 t)) Q E s := PySem.P.truthy_int h
theorem ite_f {P Q : Prop} (h : Q) : if false = true then P else Q := by rw [if_neg Bool.false_ne_true]; exact h
/-- what one sign of the walk leaves -/
structure A2J (g h : Heap) (L D I : Addr) (m : Str → Option Value) (st : Nat × Nat × List UInt8) : Prop where
  keep : Keep g h
  out : m (Str.ofString "out") = some (.ref D)
  strict : m (Str.ofString "strict_mode") = some (.bool false)
  pads : ∃ t, m (Str.ofString "pads") = some (.int 0 t)
  qp : ∃ t, m (Str.ofString "quad_pos") = some (.int ((st.1 : Nat) : Int) t)
  lc : ∃ t, m (Str.ofString "leftchar") = some (.int ((st.2.1 : Nat) : Int) t)
  i : ∃ (n : Int) (t : Tok), m (Str.ofString "i") = some (.int n t)
  oct : OctL h D st.2.2
theorem A2J.cast {g h : Heap} {L D I : Addr} {m : Str → Option Value} {st st' : Nat × Nat × List UInt8} (e : st' = st) (x : A2J g h L D I m st) : A2J g h L D I m st' := e ▸ x
theorem a2b_spec {fl : List Nat} {t : Tok} (X : Cx w s.heap) (hA : OkA A 650 300) (hl : fl.length ≤ 100) (hf : ∀ f ∈ fl, f < 64) (hfin : (a2st fl).1 = 0)
    (hQ : ∀ h' tk t', Keep s.heap h' → Q (.bytes (a2st fl).2.2.toArray t') { s with heap := h', toks := tk }) :
    wpAny (model PySem.Challenge.rw_qh0048_01.row.prog w) A (call (.ref 85) [.bytes (fl.map sgn).toArray t] [(Str.ofString "strict_mode", .bool false)]) Q E s := by
  refine enterP (binds := [(Str.ofString "data", .bytes (fl.map sgn).toArray t), (Str.ofString "strict_mode", .bool false)]) X rfl (by kernel_rfl) (Nat.lt_of_le_of_lt hA.depth (Nat.le_of_ble_eq_true rfl)) ?hb (locs (by kernel_rfl)) rfl rfl rfl (by decide) fun L h₁ tk k₁ fL ns => ?_
  case hb => exact BindsTo.of_eq rfl
  have X₁ : Cx w h₁ := X.keeps k₁
  have sL : ∀ {b : Addr} {o : Obj}, s.heap.get? b = some o → b ≠ L := fun e z => by rw [z, fL] at e; cases e
  refine wpAny_execs_cons (wpAny_Assign_Name (call_fn (a := 56) X₁ (by kernel_rfl) (by kernel_rfl) ?_ (by kernel_rfl) (by kernel_rfl) (by kernel_rfl) (by kernel_rfl)))
  refine spliced_more (Mine.nm_loc ns (v := .bytes (fl.map sgn).toArray t) rfl ?_)
  refine spliced_none ⟨X₁.k, ?_⟩
  refine asc_spec (s := ⟨h₁, _, _, _, _⟩) X₁ (hA.deeper.mono (Nat.le_of_ble_eq_true rfl) (Nat.le_of_ble_eq_true rfl)) fun h₂ tk₂ k₂ => ?_
  refine wpAny_storeName_local (by kernel_rfl) (ns.keeps k₂) (fun h₃ ns₃ hs₃ => ?_) rfl
  refine norm_sa (h := h₃) (g := s.gens) (d := s.drawn) (o := s.os) ?_
  intro tkn
  replace hs₃ : Heap.SameBut L h₂ h₃ := hs₃
  have k₃ : Keep s.heap h₃ := fun b o e => hs₃.extBut b o (sL e) (k₂ _ _ (k₁ _ _ e))
  have X₃ : Cx w h₃ := X.keeps k₃
  refine wpAny_execs_cons (wpAny_Assign_Name (call_fn (a := 70) X₃ (by kernel_rfl) (by kernel_rfl) ?_ (by kernel_rfl) (by kernel_rfl) (by kernel_rfl) (by kernel_rfl)))
  refine spliced_more (Mine.nm_loc ns₃ (v := .bool false) (by kernel_rfl) ?_)
  refine spliced_none ⟨X₃.k, ?_⟩
  refine truth_spec (s := ⟨h₃, _, _, _, _⟩) X₃ (hA.deeper.mono (Nat.le_of_ble_eq_true rfl) (Nat.le_of_ble_eq_true rfl)) fun h₄ tk₄ k₄ => ?_
  refine wpAny_storeName_local (by kernel_rfl) (ns₃.keeps k₄) (fun h₅ ns₅ hs₅ => ?_) rfl
  refine norm_sa (h := h₅) (g := s.gens) (d := s.drawn) (o := s.os) ?_
  intro tkn
  replace hs₅ : Heap.SameBut L h₄ h₅ := hs₅
  have k₅ : Keep s.heap h₅ := fun b o e => hs₅.extBut b o (sL e) (k₄ _ _ (k₃ _ _ e))
  refine wpAny_execs_cons (wpAny_Assign_Name (list0 fun h₆ D k₆ fD oD => ?_))
  have sD : ∀ {b : Addr} {o : Obj}, h₅.get? b = some o → b ≠ D := fun e z => by
    have fD' : h₅.get? D = none := fD
    rw [z, fD'] at e; cases e
  have nDL : D ≠ L := by obtain ⟨o, _, _, e, _⟩ := ns₅; exact fun z => sD e z.symm
  refine wpAny_storeName_local (by kernel_rfl) (ns₅.keeps k₆) (fun h₇ ns₇ hs₇ => ?_) rfl
  refine norm_sa (h := h₇) (g := s.gens) (d := s.drawn) (o := s.os) ?_
  intro tkn
  replace hs₇ : Heap.SameBut L h₆ h₇ := hs₇
  have k₇ : Keep s.heap h₇ := fun b o e => hs₇.extBut b o (sL e) (k₆ _ _ (k₅ _ _ e))
  have oD₇ : OctL h₇ D [] := oD.at' fun o e => hs₇.extBut D o nDL e
  refine wpAny_execs_cons (wpAny_Assign_Name (wpAny_Constant_int ?_))
  refine wpAny_storeName_local (by kernel_rfl) ns₇ (fun h₈ ns₈ hs₈ => ?_) rfl
  refine norm_sa (h := h₈) (g := s.gens) (d := s.drawn) (o := s.os) ?_
  intro tkn
  replace hs₈ : Heap.SameBut L h₇ h₈ := hs₈
  refine wpAny_execs_cons (wpAny_Assign_Name (wpAny_Constant_int ?_))
  refine wpAny_storeName_local (by kernel_rfl) ns₈ (fun ha nsa hsa => ?_) rfl
  refine norm_sa (h := ha) (g := s.gens) (d := s.drawn) (o := s.os) ?_
  intro tkn
  replace hsa : Heap.SameBut L h₈ ha := hsa
  refine wpAny_execs_cons (wpAny_Assign_Name (wpAny_Constant_int ?_))
  refine wpAny_storeName_local (by kernel_rfl) nsa (fun hb nsb hsb => ?_) rfl
  refine norm_sa (h := hb) (g := s.gens) (d := s.drawn) (o := s.os) ?_
  intro tkn
  replace hsb : Heap.SameBut L ha hb := hsb
  refine wpAny_execs_cons (wpAny_Assign_Name (wpAny_Constant_int ?_))
  refine wpAny_storeName_local (by kernel_rfl) nsb (fun h₉ ns₉ hs₉ => ?_) rfl
  refine norm_sa (h := h₉) (g := s.gens) (d := s.drawn) (o := s.os) ?_
  intro tkn
  replace hs₉ : Heap.SameBut L hb h₉ := hs₉
  have b₉ : ∀ b o, b ≠ L → h₇.get? b = some o → h₉.get? b = some o := fun b o n e => hs₉.extBut b o n (hsb.extBut b o n (hsa.extBut b o n (hs₈.extBut b o n e)))
  have k₉ : Keep s.heap h₉ := fun b o e => b₉ b o (sL e) (k₇ _ _ e)
  have oD₉ : OctL h₉ D [] := oD₇.at' fun o e => b₉ D o nDL e
  refine wpAny_execs_cons ?_
  refine wpAny_For (Mine.nm_loc ns₉ (v := .bytes (fl.map sgn).toArray t) (by kernel_rfl) (bytes_iter (A := A.deeper _) hA.handled fun I St h₁₀ W st0 fI k₁₀ => ?_)) (fun _ => rfl)
  have sI : ∀ {b : Addr} {o : Obj}, h₉.get? b = some o → b ≠ I := fun e z => by
    have fI' : h₉.get? I = none := fI
    rw [z, fI'] at e; cases e
  have nIL : I ≠ L := by obtain ⟨o, _, _, e, _⟩ := ns₉; exact fun z => sI e z.symm
  have nID : I ≠ D := by obtain ⟨vs, ⟨n, e⟩, _⟩ := oD₉; exact fun z => sI e z.symm
  refine norm_sc (h := h₁₀) (g := s.gens) (d := s.drawn) (o := s.os) ?_
  intro tkn
  refine for_walk W rfl rfl ?hL (fun k h m => A2J s.heap h L D I m (a2st (fl.take k)))
    st0 (ns₉.keeps k₁₀) ⟨fun b o e => k₁₀ _ _ (k₉ _ _ e), by kernel_rfl, by kernel_rfl, ⟨_, (if_neg (by decide)).trans (if_pos rfl)⟩, ⟨_, (if_neg (by decide)).trans ((if_neg (by decide)).trans ((if_neg (by decide)).trans (if_pos rfl)))⟩, ⟨_, (if_neg (by decide)).trans ((if_neg (by decide)).trans (if_pos rfl))⟩, ⟨_, _, if_pos rfl⟩, oD₉.at' fun o e => k₁₀ _ _ e⟩ ?turn ?done
  case hL => exact fun z => nIL (List.mem_singleton.mp z).symm
  case turn =>
    rintro k v h₀ h tk' m hk ⟨c, u, hc, rfl⟩ ⟨jk, jo, js, ⟨tp, jp⟩, ⟨tq, mq⟩, ⟨tl, ml⟩, ⟨ni, ti, mi⟩, ol⟩ nsL rel st ns'
    refine norm_sa (h := h) (g := s.gens) (d := s.drawn) (o := s.os) ?_
    intro tkn
    have rel' : ∀ b o, b ≠ I → b ≠ L → h₀.get? b = some o → h.get? b = some o := fun b o hb hb2 e => rel b o (fun z => hb (List.mem_singleton.mp z)) hb2 e
    have nI : ∀ {b : Addr} {o : Obj}, s.heap.get? b = some o → b ≠ I := fun e => sI (k₉ _ _ e)
    have kh : Keep s.heap h := fun b o e => rel' b o (nI e) (sL e) (jk b o e)
    have Xh : Cx w h := X.keeps kh
    replace ol := ol.at' fun o e => rel' D o (Ne.symm nID) nDL e
    have hk' : k < fl.length := by simpa using hk
    have ef : fl[k]? = some (fl.getD k 0) := by rw [List.getD_eq_getElem?_getD, List.getElem?_eq_getElem hk']; rfl
    have f64 : fl.getD k 0 < 64 := hf _ (List.mem_of_getElem? ef)
    have hcs : sgn (fl.getD k 0) = c := by
      have : ((fl.map sgn).toArray)[k]? = some (sgn (fl.getD k 0)) := by rw [List.getElem?_toArray, List.getElem?_map, ef]; rfl
      rw [this] at hc; injection hc
    have hcv : val64 (c.toNat : Int) = ((fl.getD k 0 : Nat) : Int) := by rw [← hcs]; exact val_sgn f64
    have hc61 : c.toNat ≠ 61 := by rw [← hcs]; exact sgn_ne f64
    have nx : a2st (fl.take (k + 1)) = a2step (a2st (fl.take k)) (fl.getD k 0) := by rw [List.take_add_one, ef]; exact a2st_snoc _ _
    have ok := a2st_ok (fl.take k) (fun x hx => hf x (List.mem_of_mem_take hx))
    have lk : (a2st (fl.take k)).2.2.length ≤ 100 := Nat.le_trans ok.2 (by rw [List.length_take]; lia)
    replace ns' : h.Ns L (fun y => if y = Str.ofString "this_ch" then some (.int (c.toNat : Int) u) else m y) := ns'
    refine wpAny_execs_cons (wpAny_If (wpAny_isTrue_Compare1 (Mine.nm_loc ns' (if_pos rfl) (wpAny_Constant_int (PyProof.Rows.eq_int (wpAny_truthy_bool (ite_p (fun e => ?_) (fun _ => ?_))))))))
    · exact absurd (eq_of_beq e) (by lia)
    refine wpAny_execs_nil ?_
    refine wpAny_execs_cons (wpAny_Assign_Name (call_fn (a := 77) Xh (by kernel_rfl) (by kernel_rfl) ?_ (by kernel_rfl) (by kernel_rfl) (by kernel_rfl) (by kernel_rfl)))
    refine spliced_more (Mine.nm_loc ns' (v := .int (c.toNat : Int) u) (if_pos rfl) ?_)
    refine spliced_none ⟨Xh.k, ?_⟩
    refine val_spec (s := ⟨h, _, _, _, _⟩) Xh (hA.deeper.mono (Nat.le_of_ble_eq_true rfl) (Nat.le_of_ble_eq_true rfl)) fun g₁ tk₁ u₁ kg₁ => ?_
    refine wpAny_storeName_local (by kernel_rfl) (ns'.keeps kg₁) (fun g₂ n₂ r₂ => ?_) rfl
    refine norm_sa (h := g₂) (g := s.gens) (d := s.drawn) (o := s.os) ?_
    intro tkn
    replace r₂ : Heap.SameBut L g₁ g₂ := r₂
    replace n₂ : g₂.Ns L (fun y => if y = Str.ofString "this_ch" then some (.int ((fl.getD k 0 : Nat) : Int) u₁) else if y = Str.ofString "this_ch" then some (.int (c.toNat : Int) u) else m y) := by rw [← hcv]; exact n₂
    refine wpAny_execs_cons (wpAny_If (wpAny_isTrue_Compare1 (Mine.nm_loc n₂ (if_pos rfl) (wpAny_Constant_int (PySem.P.ge_int (wpAny_truthy_bool (ite_p (fun e => ?_) (fun _ => ?_))))))))
    · exact absurd (of_decide_eq_true e) (by lia)
    refine wpAny_execs_nil ?_
    refine wpAny_execs_cons (wpAny_If ?_)
    refine PyProof.Rows.isTrue_and ?_
    refine PyProof.Rows.isTrue_plain ?_
    refine Mine.nm_loc n₂ ((if_neg (by decide)).trans ((if_neg (by decide)).trans (jp))) ?_
    refine truthy0 ?_
    refine ite_f ?_
    refine ite_f ?_
    refine wpAny_execs_nil ?_
    refine wpAny_execs_cons (wpAny_Assign_Name (wpAny_Constant_int ?_))
    refine wpAny_storeName_local (by kernel_rfl) n₂ (fun g₃ n₃ r₃ => ?_) rfl
    refine norm_sa (h := g₃) (g := s.gens) (d := s.drawn) (o := s.os) ?_
    intro tkn
    replace r₃ : Heap.SameBut L g₂ g₃ := r₃
    have b₃ : ∀ b o, b ≠ L → h.get? b = some o → g₃.get? b = some o := fun b o n e => r₃.extBut b o n (r₂.extBut b o n (kg₁ b o e))
    have k3 : Keep s.heap g₃ := fun b o e => b₃ b o (sL e) (kh b o e)
    have I3 : ∀ o, h.get? I = some o → g₃.get? I = some o := fun o e => b₃ I o nIL e
    have o3 : OctL g₃ D (a2st (fl.take k)).2.2 := ol.at' fun o e => b₃ D o nDL e
    refine wpAny_execs_cons (wpAny_mono (Q := fun f s' => f = .next ∧ ∃ g tkg mg, s' = { s with heap := g, toks := tkg } ∧ g.Ns L mg ∧ (∀ o, h.get? I = some o → g.get? I = some o) ∧ A2J s.heap g L D I mg (a2step (a2st (fl.take k)) (fl.getD k 0))) (E := fun _ _ => False) ?ifs ?aft (fun _ _ q => q.elim))
    case aft =>
      rintro _ _ ⟨rfl, g, tkg, mg, rfl, nsg, gI, ⟨ak, ao, as', ⟨ap, ap'⟩, ⟨aq, aq'⟩, ⟨al, al'⟩, ⟨ai, ai', ai2⟩, aO⟩⟩
      refine wpAny_execs_cons (wpAny_Assign_Name (wpAny_BinOp (Mine.nm_loc nsg ai2 (wpAny_Constant_int (add3 (c := ai + 1) rfl fun tk₈ u₈ => ?_)))))
      refine wpAny_storeName_local (by kernel_rfl) nsg (fun g₄ n₄ r₄ => ?_) rfl
      refine norm_sa (h := g₄) (g := s.gens) (d := s.drawn) (o := s.os) ?_
      intro tkn
      replace r₄ : Heap.SameBut L g g₄ := r₄
      refine wpAny_execs_nil ⟨.inl rfl, g₄, _, _, rfl, ?_, n₄, ⟨fun b o e => r₄.extBut b o (sL e) (ak b o e), (if_neg (by decide)).trans ao, (if_neg (by decide)).trans as', ⟨ap, (if_neg (by decide)).trans ap'⟩, ⟨aq, by rw [nx]; exact (if_neg (by decide)).trans aq'⟩, ⟨al, by rw [nx]; exact (if_neg (by decide)).trans al'⟩, ⟨_, _, if_pos rfl⟩, by rw [nx]; exact aO.at' fun o e => r₄.extBut D o nDL e⟩⟩
      intro b hb o e
      rw [List.mem_singleton.mp hb] at e ⊢
      exact r₄.extBut I o nIL (gI o e)
    case ifs =>
      have q0 := ok.1
      unfold A2ok at q0
      refine wpAny_If ?_
      refine wpAny_isTrue_Compare1 ?_
      refine Mine.nm_loc n₃ ((if_neg (by decide)).trans ((if_neg (by decide)).trans ((if_neg (by decide)).trans (mq)))) ?_
      refine wpAny_Constant_int ?_
      refine PyProof.Rows.eq_int ?_
      refine wpAny_truthy_bool ?_
      refine ite_p (fun e0 => ?_) (fun e0 => ?_)
      · have es : a2step (a2st (fl.take k)) (fl.getD k 0) = (1, fl.getD k 0, (a2st (fl.take k)).2.2) := if_pos (by have := eq_of_beq e0; lia)
        refine wpAny_execs_cons (wpAny_Assign_Name (wpAny_Constant_int ?_))
        refine wpAny_storeName_local (by kernel_rfl) n₃ (fun g₅ n₅ r₅ => ?_) rfl
        refine norm_sa (h := g₅) (g := s.gens) (d := s.drawn) (o := s.os) ?_
        intro tkn
        replace r₅ : Heap.SameBut L g₃ g₅ := r₅
        have o5 : OctL g₅ D (a2st (fl.take k)).2.2 := o3.at' fun o e => r₅.extBut D o nDL e
        refine wpAny_execs_cons (wpAny_Assign_Name (Mine.nm_loc n₅ ((if_neg (by decide)).trans ((if_neg (by decide)).trans (if_pos rfl))) ?_))
        refine wpAny_storeName_local (by kernel_rfl) n₅ (fun g₇ n₇ r₇ => ?_) rfl
        refine norm_sa (h := g₇) (g := s.gens) (d := s.drawn) (o := s.os) ?_
        intro tkn
        replace r₇ : Heap.SameBut L g₅ g₇ := r₇
        have b7 : ∀ b o, b ≠ L → b ≠ D → g₃.get? b = some o → g₇.get? b = some o := fun b o n _ e => r₇.extBut b o n (r₅.extBut b o n e)
        have o7 := o5.at' fun o e => r₇.extBut D o nDL e
        refine wpAny_execs_nil ⟨rfl, g₇, _, _, rfl, n₇, fun o e => b7 I o nIL nID (I3 o e), A2J.cast es ⟨fun b o e => b7 b o (sL e) (sD (k₅ _ _ e)) (k3 b o e), (if_neg (by decide)).trans ((if_neg (by decide)).trans ((if_neg (by decide)).trans ((if_neg (by decide)).trans ((if_neg (by decide)).trans (jo))))), (if_neg (by decide)).trans ((if_neg (by decide)).trans ((if_neg (by decide)).trans ((if_neg (by decide)).trans ((if_neg (by decide)).trans (js))))), ⟨_, (if_neg (by decide)).trans ((if_neg (by decide)).trans (if_pos rfl))⟩, ⟨_, (if_neg (by decide)).trans (if_pos rfl)⟩, ⟨_, if_pos rfl⟩, ⟨_, _, (if_neg (by decide)).trans ((if_neg (by decide)).trans ((if_neg (by decide)).trans ((if_neg (by decide)).trans ((if_neg (by decide)).trans (mi)))))⟩, o7⟩⟩
      have z0 : ¬ (a2st (fl.take k)).1 = 0 := fun z => by rw [z] at e0; cases e0
      refine wpAny_execs_cons (wpAny_mono (Q := fun f s' => f = .next ∧ ∃ g tkg mg, s' = { s with heap := g, toks := tkg } ∧ g.Ns L mg ∧ (∀ o, h.get? I = some o → g.get? I = some o) ∧ A2J s.heap g L D I mg (a2step (a2st (fl.take k)) (fl.getD k 0))) (E := fun _ _ => False) ?i1 (fun _ _ q => by obtain ⟨rfl, q⟩ := q; exact wpAny_execs_nil ⟨rfl, q⟩) (fun _ _ q => q))
      refine wpAny_If ?_
      refine wpAny_isTrue_Compare1 ?_
      refine Mine.nm_loc n₃ ((if_neg (by decide)).trans ((if_neg (by decide)).trans ((if_neg (by decide)).trans (mq)))) ?_
      refine wpAny_Constant_int ?_
      refine PyProof.Rows.eq_int ?_
      refine wpAny_truthy_bool ?_
      refine ite_p (fun e1 => ?_) (fun e1 => ?_)
      · have p1 : (a2st (fl.take k)).1 = 1 := by have := eq_of_beq e1; lia
        have es : a2step (a2st (fl.take k)) (fl.getD k 0) = (2, fl.getD k 0 % 16, (a2st (fl.take k)).2.2 ++ [UInt8.ofNat ((a2st (fl.take k)).2.1 * 4 + fl.getD k 0 / 16)]) := (if_neg z0).trans (if_pos p1)
        refine wpAny_execs_cons (wpAny_Assign_Name (wpAny_Constant_int ?_))
        refine wpAny_storeName_local (by kernel_rfl) n₃ (fun g₅ n₅ r₅ => ?_) rfl
        refine norm_sa (h := g₅) (g := s.gens) (d := s.drawn) (o := s.os) ?_
        intro tkn
        replace r₅ : Heap.SameBut L g₃ g₅ := r₅
        have o5 : OctL g₅ D (a2st (fl.take k)).2.2 := o3.at' fun o e => r₅.extBut D o nDL e
        refine wpAny_execs_cons (wpAny_Expr (PyProof.Rows.MethodCall_ (Mine.nm_loc n₅ ((if_neg (by decide)).trans ((if_neg (by decide)).trans ((if_neg (by decide)).trans ((if_neg (by decide)).trans (jo))))) (oct_meth o5 (PyProof.Rows.callWith_method1 (spliced_more ?_))))))
        refine wpAny_BinOp (wpAny_BinOp (Mine.nm_loc n₅ ((if_neg (by decide)).trans ((if_neg (by decide)).trans ((if_neg (by decide)).trans ((if_neg (by decide)).trans (ml))))) (wpAny_Constant_int (shl3 (n := 2) (c := (((a2st (fl.take k)).2.1 * 4 : Nat) : Int)) (by lia) (by lia) rfl fun tk₁₁ u₁₁ => wpAny_BinOp (Mine.nm_loc n₅ ((if_neg (by decide)).trans ((if_neg (by decide)).trans (if_pos rfl))) (wpAny_Constant_int (shr3 (n := 4) (c := (((fl.getD k 0) / 16 : Nat) : Int)) rfl fun tk₁₂ u₁₂ => or3 (c := (((a2st (fl.take k)).2.1 * 4 + (fl.getD k 0) / 16 : Nat) : Int)) (by rw [show (a2st (fl.take k)).2.1 * 4 ||| (fl.getD k 0) / 16 = (a2st (fl.take k)).2.1 * 4 + (fl.getD k 0) / 16 from or_add 2 _ _ (by lia)]) fun tk₁₃ u₁₃ => ?_)))))))
        refine spliced_none (oct_appendN (by lia) o5 (by lia) fun g₆ o6 r₆ => ?_)
        have n₆ := n₅.sameBut r₆ (Ne.symm nDL)
        refine wpAny_execs_cons (wpAny_Assign_Name (wpAny_BinOp (Mine.nm_loc n₆ ((if_neg (by decide)).trans ((if_neg (by decide)).trans (if_pos rfl))) (wpAny_Constant_int (and3 (b := 15) (c := (((fl.getD k 0) % 16 : Nat) : Int)) (by rw [and_4]) fun tk₁₄ u₁₄ => ?_)))))
        refine wpAny_storeName_local (by kernel_rfl) n₆ (fun g₇ n₇ r₇ => ?_) rfl
        refine norm_sa (h := g₇) (g := s.gens) (d := s.drawn) (o := s.os) ?_
        intro tkn
        replace r₇ : Heap.SameBut L g₆ g₇ := r₇
        have b7 : ∀ b o, b ≠ L → b ≠ D → g₃.get? b = some o → g₇.get? b = some o := fun b o n n' e => r₇.extBut b o n (r₆.extBut b o n' (r₅.extBut b o n e))
        have o7 := o6.at' fun o e => r₇.extBut D o nDL e
        refine wpAny_execs_nil ⟨rfl, g₇, _, _, rfl, n₇, fun o e => b7 I o nIL nID (I3 o e), A2J.cast es ⟨fun b o e => b7 b o (sL e) (sD (k₅ _ _ e)) (k3 b o e), (if_neg (by decide)).trans ((if_neg (by decide)).trans ((if_neg (by decide)).trans ((if_neg (by decide)).trans ((if_neg (by decide)).trans (jo))))), (if_neg (by decide)).trans ((if_neg (by decide)).trans ((if_neg (by decide)).trans ((if_neg (by decide)).trans ((if_neg (by decide)).trans (js))))), ⟨_, (if_neg (by decide)).trans ((if_neg (by decide)).trans (if_pos rfl))⟩, ⟨_, (if_neg (by decide)).trans (if_pos rfl)⟩, ⟨_, if_pos rfl⟩, ⟨_, _, (if_neg (by decide)).trans ((if_neg (by decide)).trans ((if_neg (by decide)).trans ((if_neg (by decide)).trans ((if_neg (by decide)).trans (mi)))))⟩, o7⟩⟩
      have z1 : ¬ (a2st (fl.take k)).1 = 1 := fun z => by rw [z] at e1; cases e1
      refine wpAny_execs_cons (wpAny_mono (Q := fun f s' => f = .next ∧ ∃ g tkg mg, s' = { s with heap := g, toks := tkg } ∧ g.Ns L mg ∧ (∀ o, h.get? I = some o → g.get? I = some o) ∧ A2J s.heap g L D I mg (a2step (a2st (fl.take k)) (fl.getD k 0))) (E := fun _ _ => False) ?i2 (fun _ _ q => by obtain ⟨rfl, q⟩ := q; exact wpAny_execs_nil ⟨rfl, q⟩) (fun _ _ q => q))
      refine wpAny_If ?_
      refine wpAny_isTrue_Compare1 ?_
      refine Mine.nm_loc n₃ ((if_neg (by decide)).trans ((if_neg (by decide)).trans ((if_neg (by decide)).trans (mq)))) ?_
      refine wpAny_Constant_int ?_
      refine PyProof.Rows.eq_int ?_
      refine wpAny_truthy_bool ?_
      refine ite_p (fun e2 => ?_) (fun e2 => ?_)
      · have p2 : (a2st (fl.take k)).1 = 2 := by have := eq_of_beq e2; lia
        have es : a2step (a2st (fl.take k)) (fl.getD k 0) = (3, fl.getD k 0 % 4, (a2st (fl.take k)).2.2 ++ [UInt8.ofNat ((a2st (fl.take k)).2.1 * 16 + fl.getD k 0 / 4)]) := (if_neg z0).trans ((if_neg z1).trans (if_pos p2))
        refine wpAny_execs_cons (wpAny_Assign_Name (wpAny_Constant_int ?_))
        refine wpAny_storeName_local (by kernel_rfl) n₃ (fun g₅ n₅ r₅ => ?_) rfl
        refine norm_sa (h := g₅) (g := s.gens) (d := s.drawn) (o := s.os) ?_
        intro tkn
        replace r₅ : Heap.SameBut L g₃ g₅ := r₅
        have o5 : OctL g₅ D (a2st (fl.take k)).2.2 := o3.at' fun o e => r₅.extBut D o nDL e
        refine wpAny_execs_cons (wpAny_Expr (PyProof.Rows.MethodCall_ (Mine.nm_loc n₅ ((if_neg (by decide)).trans ((if_neg (by decide)).trans ((if_neg (by decide)).trans ((if_neg (by decide)).trans (jo))))) (oct_meth o5 (PyProof.Rows.callWith_method1 (spliced_more ?_))))))
        refine wpAny_BinOp (wpAny_BinOp (Mine.nm_loc n₅ ((if_neg (by decide)).trans ((if_neg (by decide)).trans ((if_neg (by decide)).trans ((if_neg (by decide)).trans (ml))))) (wpAny_Constant_int (shl3 (n := 4) (c := (((a2st (fl.take k)).2.1 * 16 : Nat) : Int)) (by lia) (by lia) rfl fun tk₁₁ u₁₁ => wpAny_BinOp (Mine.nm_loc n₅ ((if_neg (by decide)).trans ((if_neg (by decide)).trans (if_pos rfl))) (wpAny_Constant_int (shr3 (n := 2) (c := (((fl.getD k 0) / 4 : Nat) : Int)) rfl fun tk₁₂ u₁₂ => or3 (c := (((a2st (fl.take k)).2.1 * 16 + (fl.getD k 0) / 4 : Nat) : Int)) (by rw [show (a2st (fl.take k)).2.1 * 16 ||| (fl.getD k 0) / 4 = (a2st (fl.take k)).2.1 * 16 + (fl.getD k 0) / 4 from or_add 4 _ _ (by lia)]) fun tk₁₃ u₁₃ => ?_)))))))
        refine spliced_none (oct_appendN (by lia) o5 (by lia) fun g₆ o6 r₆ => ?_)
        have n₆ := n₅.sameBut r₆ (Ne.symm nDL)
        refine wpAny_execs_cons (wpAny_Assign_Name (wpAny_BinOp (Mine.nm_loc n₆ ((if_neg (by decide)).trans ((if_neg (by decide)).trans (if_pos rfl))) (wpAny_Constant_int (and3 (b := 3) (c := (((fl.getD k 0) % 4 : Nat) : Int)) (by rw [and_2]) fun tk₁₄ u₁₄ => ?_)))))
        refine wpAny_storeName_local (by kernel_rfl) n₆ (fun g₇ n₇ r₇ => ?_) rfl
        refine norm_sa (h := g₇) (g := s.gens) (d := s.drawn) (o := s.os) ?_
        intro tkn
        replace r₇ : Heap.SameBut L g₆ g₇ := r₇
        have b7 : ∀ b o, b ≠ L → b ≠ D → g₃.get? b = some o → g₇.get? b = some o := fun b o n n' e => r₇.extBut b o n (r₆.extBut b o n' (r₅.extBut b o n e))
        have o7 := o6.at' fun o e => r₇.extBut D o nDL e
        refine wpAny_execs_nil ⟨rfl, g₇, _, _, rfl, n₇, fun o e => b7 I o nIL nID (I3 o e), A2J.cast es ⟨fun b o e => b7 b o (sL e) (sD (k₅ _ _ e)) (k3 b o e), (if_neg (by decide)).trans ((if_neg (by decide)).trans ((if_neg (by decide)).trans ((if_neg (by decide)).trans ((if_neg (by decide)).trans (jo))))), (if_neg (by decide)).trans ((if_neg (by decide)).trans ((if_neg (by decide)).trans ((if_neg (by decide)).trans ((if_neg (by decide)).trans (js))))), ⟨_, (if_neg (by decide)).trans ((if_neg (by decide)).trans (if_pos rfl))⟩, ⟨_, (if_neg (by decide)).trans (if_pos rfl)⟩, ⟨_, if_pos rfl⟩, ⟨_, _, (if_neg (by decide)).trans ((if_neg (by decide)).trans ((if_neg (by decide)).trans ((if_neg (by decide)).trans ((if_neg (by decide)).trans (mi)))))⟩, o7⟩⟩
      · have z2 : ¬ (a2st (fl.take k)).1 = 2 := fun z => by rw [z] at e2; cases e2
        have es : a2step (a2st (fl.take k)) (fl.getD k 0) = (0, 0, (a2st (fl.take k)).2.2 ++ [UInt8.ofNat ((a2st (fl.take k)).2.1 * 64 + fl.getD k 0)]) := (if_neg z0).trans ((if_neg z1).trans (if_neg z2))
        refine wpAny_execs_cons (wpAny_Assign_Name (wpAny_Constant_int ?_))
        refine wpAny_storeName_local (by kernel_rfl) n₃ (fun g₅ n₅ r₅ => ?_) rfl
        refine norm_sa (h := g₅) (g := s.gens) (d := s.drawn) (o := s.os) ?_
        intro tkn
        replace r₅ : Heap.SameBut L g₃ g₅ := r₅
        have o5 : OctL g₅ D (a2st (fl.take k)).2.2 := o3.at' fun o e => r₅.extBut D o nDL e
        refine wpAny_execs_cons (wpAny_Expr (PyProof.Rows.MethodCall_ (Mine.nm_loc n₅ ((if_neg (by decide)).trans ((if_neg (by decide)).trans ((if_neg (by decide)).trans ((if_neg (by decide)).trans (jo))))) (oct_meth o5 (PyProof.Rows.callWith_method1 (spliced_more ?_))))))
        refine wpAny_BinOp (wpAny_BinOp (Mine.nm_loc n₅ ((if_neg (by decide)).trans ((if_neg (by decide)).trans ((if_neg (by decide)).trans ((if_neg (by decide)).trans (ml))))) (wpAny_Constant_int (shl3 (n := 6) (c := (((a2st (fl.take k)).2.1 * 64 : Nat) : Int)) (by lia) (by lia) rfl fun tk₁₁ u₁₁ => Mine.nm_loc n₅ ((if_neg (by decide)).trans ((if_neg (by decide)).trans (if_pos rfl))) (or3 (c := (((a2st (fl.take k)).2.1 * 64 + (fl.getD k 0) : Nat) : Int)) (by rw [show (a2st (fl.take k)).2.1 * 64 ||| (fl.getD k 0) = (a2st (fl.take k)).2.1 * 64 + (fl.getD k 0) from or_add 6 _ _ (by lia)]) fun tk₁₃ u₁₃ => ?_)))))
        refine spliced_none (oct_appendN (by lia) o5 (by lia) fun g₆ o6 r₆ => ?_)
        have n₆ := n₅.sameBut r₆ (Ne.symm nDL)
        refine wpAny_execs_cons (wpAny_Assign_Name (wpAny_Constant_int ?_))
        refine wpAny_storeName_local (by kernel_rfl) n₆ (fun g₇ n₇ r₇ => ?_) rfl
        refine norm_sa (h := g₇) (g := s.gens) (d := s.drawn) (o := s.os) ?_
        intro tkn
        replace r₇ : Heap.SameBut L g₆ g₇ := r₇
        have b7 : ∀ b o, b ≠ L → b ≠ D → g₃.get? b = some o → g₇.get? b = some o := fun b o n n' e => r₇.extBut b o n (r₆.extBut b o n' (r₅.extBut b o n e))
        have o7 := o6.at' fun o e => r₇.extBut D o nDL e
        refine wpAny_execs_nil ⟨rfl, g₇, _, _, rfl, n₇, fun o e => b7 I o nIL nID (I3 o e), A2J.cast es ⟨fun b o e => b7 b o (sL e) (sD (k₅ _ _ e)) (k3 b o e), (if_neg (by decide)).trans ((if_neg (by decide)).trans ((if_neg (by decide)).trans ((if_neg (by decide)).trans ((if_neg (by decide)).trans (jo))))), (if_neg (by decide)).trans ((if_neg (by decide)).trans ((if_neg (by decide)).trans ((if_neg (by decide)).trans ((if_neg (by decide)).trans (js))))), ⟨_, (if_neg (by decide)).trans ((if_neg (by decide)).trans (if_pos rfl))⟩, ⟨_, (if_neg (by decide)).trans (if_pos rfl)⟩, ⟨_, if_pos rfl⟩, ⟨_, _, (if_neg (by decide)).trans ((if_neg (by decide)).trans ((if_neg (by decide)).trans ((if_neg (by decide)).trans ((if_neg (by decide)).trans (mi)))))⟩, o7⟩⟩
  case done =>
    rintro h₀ h tk' m ⟨jk, jo, js, ⟨tp, jp⟩, ⟨tq, mq⟩, ⟨tl, ml⟩, ⟨ni, ti, mi⟩, ol⟩ rel ns'
    refine norm_sa (h := h) (g := s.gens) (d := s.drawn) (o := s.os) ?_
    intro tkn
    have et : fl.take (fl.map sgn).toArray.size = fl := by simp
    rw [et] at mq ol
    rw [hfin] at mq
    have rel' : ∀ b o, b ≠ I → h₀.get? b = some o → h.get? b = some o := fun b o hb e => rel b o (fun z => hb (List.mem_singleton.mp z)) e
    have kh' : Keep s.heap h := fun b o e => rel' b o (sI (k₉ _ _ e)) (jk b o e)
    have ol' : OctL h D (a2st fl).2.2 := ol.at' fun o e => rel' D o (Ne.symm nID) e
    have lo := (a2st_ok fl hf).2
    refine wpAny_execs_cons (wpAny_If (wpAny_isTrue_Compare1 (Mine.nm_loc ns' mq (wpAny_Constant_int (PyProof.Rows.eq_int (wpAny_truthy_bool (ite_p (fun e => ?_) (fun _ => ?_))))))))
    · exact absurd e (by decide)
    refine wpAny_execs_nil ?_
    refine wpAny_execs_cons (wpAny_If (PyProof.Rows.isTrue_and (wpAny_isTrue_Compare1 (Mine.nm_loc ns' mq (wpAny_Constant_int (PySem.P.ne_int (wpAny_truthy_bool (ite_p (fun e => ?_) (fun _ => ?_)))))))))
    · exact absurd e (by decide)
    rw [if_neg Bool.false_ne_true]
    refine wpAny_execs_nil ?_
    refine wpAny_execs_cons (wpAny_Return_some (wpAny_Call_NameR (Mine.nm_bi (X.keeps kh') (v := .type "bytes") (by kernel_rfl) (by kernel_rfl) (by decide) ?_)))
    refine PyProof.Rows.callWith_type1 ?_
    refine spliced_more (Mine.nm_loc ns' jo ?_)
    refine spliced_none (oct_bytes (A := A.deeper _) hA.handled ol' (by lia) fun h₂ t₂ k₂ kp => hQ _ _ _ (kh'.trans kp))
end
end Mine
end

section
open PySem PySem.W PySem.W.X PyProof.Rows PySem.Calls
namespace Mine
theorem jn_slot : Slot "bytes" "join" "bytes.join" :=
  .of (owner := "bytes") (n := "join") (by rw [typeLookup_type, builtinLookup_eq_fast]; kernel_rfl) (by decide +kernel) (by decide +kernel) (by decide +kernel)
    (.inr (by decide +kernel)) (by rw [isSubtype_type]; kernel_rfl)
theorem jn_type : typeOf (.builtin "bytes.join") = pure (.type "method_descriptor") := by show builtinType _ = _; rw [builtinType_eq_fast]; kernel_rfl
theorem jn_entry : entryFor table "bytes.join" = some Builtin.«bytes.join» := entryFor_of_tree (by kernel_rfl)
theorem jn_args (a b : Value) : argsOk "bytes.join" ⟨[a, b], []⟩ := by
  unfold argsOk; rw [signature?_of (id := "bytes.join") (n := ['n', 'i', 'o', 'j']) (o := ['s', 'e', 't', 'y', 'b']) (by kernel_rfl) FB.owner_bytes]; kernel_rfl
theorem jn_buf : typeLookup (.type "bytes") "__buffer__" = pure (some (.builtin "bytes.__buffer__")) := by rw [typeLookup_type, builtinLookup_eq_fast]; kernel_rfl
theorem jn_sub : isSubtype (.type "bytes") (.type "bytes") = pure true := by rw [isSubtype_type]; kernel_rfl
end Mine
end

section
open PySem PySem.W PySem.W.X PyProof.Rows PySem.Calls
namespace Mine
theorem jn_rel : typeLookup (.type "bytes") "__release_buffer__" = pure none := by rw [typeLookup_type, builtinLookup_eq_fast]; kernel_rfl
section
variable {M : Model} {w : World} {A : Around} {E : Value → Shared → Prop} {s : Shared}
theorem iteN {α : Type} {b : Bool} {x y : Sem α} {Q : α → Shared → Prop} (e : b = false) (z : wpAny M A y Q E s) : wpAny M A (if b = true then x else y) Q E s := by rw [e]; exact z
theorem iteY {α : Type} {b : Bool} {x y : Sem α} {Q : α → Shared → Prop} (e : b = true) (z : wpAny M A x Q E s) : wpAny M A (if b = true then x else y) Q E s := by rw [e]; exact z
theorem jn_release {b : Array UInt8} {t : Tok} {Q : Bool → Shared → Prop} (hQ : Q false s) : wpAny M A (Builtin.Bytes.ownRelease (.bytes b t)) Q E s := by
  unfold Builtin.Bytes.ownRelease Builtin.Bytes.slotIsOwn
  exact wpAny_bind (wpAny_bind (wpAny_specialOf (typeIs_bytes _ _ _) jn_rel (wpAny_pure (wpAny_pure hQ))))
theorem jn_slotOwn {b : Array UInt8} {t : Tok} {Q : Bool → Shared → Prop} (hQ : Q true s) : wpAny M A (Builtin.Bytes.slotIsOwn (.bytes b t) "__buffer__") Q E s := by
  unfold Builtin.Bytes.slotIsOwn
  refine wpAny_bind (wpAny_specialOf (typeIs_bytes _ _ _) jn_buf ?_)
  show wpAny M A (if (!("bytes.__buffer__" : String).endsWith ("." ++ "__buffer__")) = true then _ else _) _ E s
  rw [if_neg (by decide +kernel)]
  have e : (("bytes.__buffer__" : String).dropRight (("__buffer__" : String).length + 1)) = "bytes" := by decide +kernel
  show wpAny M A (isInstance (.bytes b t) (.type (("bytes.__buffer__" : String).dropRight (("__buffer__" : String).length + 1)))) _ E s
  rw [e]
  exact wpAny_isInstance (typeIs_bytes _ _ _) jn_sub hQ
theorem jn_buffer {b : Array UInt8} {t : Tok} {id : String} {Q : Option (Array UInt8) → Shared → Prop} {fl : Bool} (hQ : Q (some b) s) : wpAny M A (Builtin.Bytes.buffer? id (.bytes b t) fl) Q E s := by
  unfold Builtin.Bytes.buffer?
  refine wpAny_bind (wpAny_specialOf (typeIs_bytes _ _ _) jn_buf ?_)
  refine wpAny_bind (jn_slotOwn (iteN rfl ?_))
  refine wpAny_bind (wpAny_specialOf (typeIs_bytes _ _ _) jn_buf ?_)
  refine wpAny_bind (jn_release (iteN rfl ?_))
  unfold Builtin.Bytes.payload
  exact wpAny_bind (wpAny_bind (wpAny_pure (wpAny_pure (wpAny_pure hQ))))
theorem jn_take {b : Array UInt8} {t : Tok} {id : String} {Q : Option (Array UInt8 × Option Value) → Shared → Prop} (hQ : Q (some (b, none)) s) : wpAny M A (Builtin.Bytes.takeBufferQuiet? id (.bytes b t) 0) Q E s := by
  unfold Builtin.Bytes.takeBufferQuiet? Builtin.Bytes.takeBuffer?
  refine wpAny_bind (wpAny_attempt ?_)
  refine wpAny_bind (wpAny_specialOf (typeIs_bytes _ _ _) jn_buf ?_)
  refine wpAny_bind (jn_slotOwn (iteN rfl ?_))
  refine wpAny_bind (wpAny_specialOf (typeIs_bytes _ _ _) jn_buf ?_)
  exact wpAny_bind (jn_buffer (wpAny_pure (wpAny_pure hQ)))
theorem jn_match {α : Type} (X : Array Value) (hx : X.size ≠ 1) (h1 : (x : Value) → α) (h2 : (x : Array Value) → α) : Builtin.Bytes.joinM.match_1 (fun _ => α) X h1 h2 = h2 X := by
  unfold Builtin.Bytes.joinM.match_1
  rw [dif_neg hx]
/-- the bytes of a row of bytes -/
def btsV (l : List (Array UInt8 × Tok)) : List Value := l.map fun p => .bytes p.1 p.2
theorem jn_letGo {M : Model} {keep : List Value} {Q : Unit → Shared → Prop} : ∀ (l : List (Value × Option Value)) (s : Shared), (∀ p ∈ l, p.2 = none) → Q () s → wpAny M A (Builtin.Bytes.joinLetGo l keep) Q E s
  | [], s, _, h => wpAny_pure h
  | (x, none) :: r, s, hl, h => by
    unfold Builtin.Bytes.joinLetGo
    dsimp only
    unfold letGo
    refine wpAny_bind (wpAny_bind (wpAny_holding (wpAny_point ?_)))
    show wpAny M A (letGo [] _) _ E s
    unfold letGo
    refine wpAny_pure ?_
    exact jn_letGo r _ (fun p hp => hl p (.tail _ hp)) h
  | (x, some w) :: r, s, hl, h => by cases hl _ (.head _)
theorem joined_aux (l : List (Array UInt8)) : ∀ (k : Nat) (out : Array UInt8), (l.zipIdx k).foldl (fun out p => (if p.2 > 0 then out ++ #[] else out) ++ p.1) out = out ++ (l.map (·.toList)).flatten.toArray := by
  induction l with
  | nil => intro k out; simp
  | cons x l ih =>
    intro k out
    rw [List.zipIdx_cons, List.foldl_cons, ih]
    have : (if k > 0 then out ++ #[] else out) = out := by split <;> simp
    show (if k > 0 then out ++ #[] else out) ++ x ++ _ = _
    rw [this]
    apply Array.ext'
    simp
theorem joined_nil (l : List (Array UInt8)) : Builtin.Bytes.joined #[] l = (l.map (·.toList)).flatten.toArray := by
  unfold Builtin.Bytes.joined
  have := joined_aux l 0 #[]
  simp at this ⊢
  exact this
theorem fold_size (l : List (Array UInt8)) : ∀ n : Nat, l.foldl (fun a p => a + p.size) n = n + ((l.map (·.toList)).flatten).length := by
  induction l with
  | nil => intro n; simp
  | cons x l ih => intro n; rw [List.foldl_cons, ih]; simp [Nat.add_assoc]
theorem jn_body {D : Addr} {L : List (Array UInt8 × Tok)} {t : Tok} {Q : Fin → Shared → Prop} (h2 : 2 ≤ L.length) (hD : s.heap.IsList D (btsV L).toArray) (hsz : ((L.map (·.1.toList)).flatten).length ≤ 1000)
    (hQ : ∀ tk t', Q (.done (.ret (.bytes ((L.map (·.1.toList)).flatten).toArray t'))) { s with toks := tk }) :
    wpAny M A (Builtin.«bytes.join» ⟨[.bytes #[] t, .ref D], []⟩) Q E s := by
  have hT : s.TypeIs (.ref D) "list" := hD.typeIs
  have items : ∀ {Q : Option (Array Value) → Shared → Prop}, Q (some (btsV L).toArray) s → wpAny M A (seqItems? (.ref D)) Q E s := by
    intro Q h
    obtain ⟨o, ho, hc, n, hd⟩ := hD
    unfold seqItems?
    refine wpAny_bind (wpAny_load ho ?_)
    rw [hd]
    exact wpAny_pure h
  have hlen : (btsV L).toArray.size = L.length := by simp [btsV]
  have n1 : (btsV L).toArray.size ≠ 1 := by rw [hlen]; lia
  have start : List.range' 0 (btsV L).toArray.size 1 = List.range' 0 (L.length - 0) := by rw [hlen]; rfl
  unfold Builtin.«bytes.join» Builtin.Bytes.joinM
  dsimp only
  refine wpAny_bind (wpAny_pure ?_)
  refine iteY rfl ?_
  refine wpAny_bind (m := Builtin.Bytes.joinItems (.ref D)) ?_
  unfold Builtin.Bytes.joinItems
  refine wpAny_bind (wpAny_typeOf hT ?_)
  refine iteY rfl (wpAny_pure ?_)
  refine wpAny_bind (items ?_)
  refine iteY rfl ?_
  dsimp only
  rw [jn_match (btsV L).toArray n1]
  refine wpAny_bind ?_
  rw [KPc.range_list]
  refine wpAny_forIn_list _ (fun rest st s' => ∃ i, rest = List.range' i (L.length - i) ∧ i ≤ L.length ∧ st = (((L.take i).map (·.1)).toArray, (btsV (L.take i)).map (·, none)) ∧ s' = s) _ ?turn ?fin _ _ ⟨0, start, Nat.zero_le _, rfl, rfl⟩
  case turn =>
    rintro x rest st _ ⟨i, he, hi, rfl, rfl⟩
    have hlt : i < L.length := by
      rcases Nat.lt_or_ge i L.length with q | q
      · exact q
      · rw [show L.length - i = 0 by lia] at he; cases he
    have hr : List.range' i (L.length - i) = i :: List.range' (i + 1) (L.length - (i + 1)) := by
      rw [show L.length - i = (L.length - (i + 1)) + 1 by lia]; rfl
    rw [hr] at he
    cases he
    have hg : (btsV L).toArray.getD x .none = .bytes L[x].1 L[x].2 := by
      have : x < (btsV L).toArray.size := by rw [hlen]; exact hlt
      rw [Array.getD_eq_getD_getElem?, Array.getElem?_eq_getElem this]
      simp [btsV]
    refine wpAny_bind (items ?_)
    refine iteN ?_ ?_
    · rw [show (Builtin.Bytes.Kind.bytes == Builtin.Bytes.Kind.bytearray) = false from rfl, Bool.false_or, List.any_eq_false]
      intro p hp
      obtain ⟨v, hv, rfl⟩ := List.mem_map.mp hp
      obtain ⟨q, _, rfl⟩ := List.mem_map.mp hv
      exact Bool.false_ne_true
    refine wpAny_bind (wpAny_holding ?_)
    rw [hg]
    refine jn_take ?_
    refine wpAny_bind (items ?_)
    refine iteN (by simp) (wpAny_pure ?_)
    refine ⟨x + 1, rfl, hlt, ?_, rfl⟩
    rw [List.take_succ_eq_append_getElem hlt]
    simp only [List.map_append, List.map_cons, List.map_nil, btsV, List.push_toArray]
  case fin =>
    rintro st _ ⟨i, he, hi, rfl, rfl⟩
    have hil : i = L.length := by
      rcases Nat.lt_or_ge i L.length with q | q
      · rw [show L.length - i = (L.length - (i + 1)) + 1 by lia] at he; cases he
      · lia
    subst hil
    rw [List.take_length]
    refine wpAny_bind (m := Builtin.Bytes.payload _) ?_
    unfold Builtin.Bytes.payload
    refine wpAny_bind (wpAny_pure (wpAny_pure ?_))
    have hfl : ((L.map (·.1)).toArray).foldl (fun a x => a + x.size) 0 = ((L.map (·.1.toList)).flatten).length := by
      rw [List.foldl_toArray, fold_size, List.map_map]; simp; rfl
    refine iteN ?_ ?_
    · unfold Builtin.Bytes.tooLong
      refine decide_eq_false ?_
      rw [show (#[] : Array UInt8).size * (((L.map (·.1)).toArray).size - 1) = 0 by simp, hfl, sizeLine_eq]
      lia
    rw [joined_nil]
    have ej : ((((L.map (·.1)).toArray).toList).map (·.toList)).flatten = ((L.map (·.1.toList)).flatten) := by rw [List.map_map]; rfl
    rw [ej]
    refine wpAny_bind (m := mkBytes _) (wpAny_mkBytes ?_ (by rw [sizeLine_eq, List.size_toArray]; lia))
    refine wpAny_bind (wpAny_holding (wpAny_point ?_))
    refine wpAny_bind (jn_letGo _ _ (fun p hp => by obtain ⟨v, _, rfl⟩ := List.mem_map.mp hp; rfl) ?_)
    exact wpAny_pure (hQ _ _)
end
end Mine
end

section
open PySem PySem.W PySem.W.X PyProof.Rows PySem.Calls
namespace Mine
section
variable {prog : Program} {w : World} {A : Around} {E : Value → Shared → Prop} {s : Shared}
theorem call_slot {T : String} {name : Str} {id : String} {B : Builtin} {self : Value} {rest : List Value} {Q : Value → Shared → Prop} (slot : Slot T name id) (hT : s.TypeIs self T)
    (entry : entryFor table id = some B) (args : argsOk id ⟨self :: rest, []⟩) (h : wpAny (model prog w) A.in1 (B ⟨self :: rest, []⟩) (fun fin s' => ∃ v, fin = .done (.ret v) ∧ Q v s') E s) :
    wpAny (model prog w) A (call (.builtin id) (self :: rest)) Q E s := by
  refine wpAny_call (codeAny_call_builtin slot.plain entry (slot.check _ _ _ _ _ _ _ _ hT args ?_))
  refine wpAny_mono h ?_ (fun _ _ x => x)
  rintro _ s' ⟨v, rfl, q⟩
  exact q
/-- the empty bytes' join over a row of bytes, two or more -/
theorem join_rule {D : Addr} {L : List (Array UInt8 × Tok)} {t : Tok} {Q : Value → Shared → Prop} (hL : 2 ≤ L.length) (hD : s.heap.IsList D (btsV L).toArray) (hsz : ((L.map (·.1.toList)).flatten).length ≤ 1000)
    (hQ : ∀ tk t', Q (.bytes ((L.map (·.1.toList)).flatten).toArray t') { s with toks := tk }) :
    wpAny (model prog w) A (call (.builtin "bytes.join") [.bytes #[] t, .ref D]) Q E s := by
  refine call_slot (B := Builtin.«bytes.join») jn_slot (typeIs_bytes _ _ _) jn_entry (jn_args _ _) ?_
  refine jn_body hL hD hsz ?_
  intro tk t'
  exact ⟨_, rfl, hQ tk t'⟩
theorem join_meth {M : Model} {b : Array UInt8} {t : Tok} {pl : Sem Bool} {Q : Value × List Value → Shared → Prop} (h : Q (.builtin "bytes.join", [.bytes b t]) s) : wpAny M A (getMethod (.bytes b t) "join" pl) Q E s := by
  with_reducible exact KBd.method_of (.bytes b t) (typeIs_bytes _ _ _) jn_slot jn_type KBd.noRef h
end
end Mine
end

section
open PySem PySem.W PySem.W.X PyProof.Rows PySem.Calls
namespace Mine
variable [Inhabited Base]
section
variable {w : World} {A : Around} {E Q : Value → Shared → Prop} {s : Shared}
theorem enc_spec {bl : List UInt8} {t : Tok} (X : Cx w s.heap) (hA : OkA A 640 260) (hl : bl.length ≤ 100) (hfin : (b2st bl).1 = 0)
    (hQ : ∀ h' tk t', Keep s.heap h' → Q (.bytes (b2st bl).2.2.toArray t') { s with heap := h', toks := tk }) :
    wpAny (model PySem.Challenge.rw_qh0048_01.row.prog w) A (call (.ref 101) [.bytes bl.toArray t]) Q E s := by
  refine enterP (binds := [(Str.ofString "s", .bytes bl.toArray t), (Str.ofString "altchars", .none)]) X rfl (by kernel_rfl) (Nat.lt_of_le_of_lt hA.depth (Nat.le_of_ble_eq_true rfl)) ?hb (locs (by kernel_rfl)) rfl rfl rfl (by decide) fun L h₁ tk k₁ fL ns => ?_
  case hb =>
    refine' binds_K X.k rfl rfl rfl ?h1 ?h2
    case h1 => rfl
    case h2 => rfl
  have X₁ : Cx w h₁ := X.keeps k₁
  have sL : ∀ {b : Addr} {o : Obj}, s.heap.get? b = some o → b ≠ L := fun e z => by rw [z, fL] at e; cases e
  refine wpAny_execs_cons (wpAny_Assign_Name (wpAny_Call_Name_kw (Mine.nm_glob X₁ (v := .ref 93) (by kernel_rfl) (callWith_KW X₁.k (by kernel_rfl) (by kernel_rfl) ?_))))
  refine spliced_more (Mine.nm_loc ns (v := .bytes bl.toArray t) (by kernel_rfl) ?_)
  refine spliced_none ?_
  refine kws_cons (wpAny_Constant_bool ?_)
  refine kws_nil ⟨X₁.k, ?_⟩
  refine b2a_spec (s := ⟨h₁, _, _, _, _⟩) X₁ (hA.deeper.mono (Nat.le_of_ble_eq_true rfl) (Nat.le_of_ble_eq_true rfl)) hl hfin fun h₂ tk₂ t₂ k₂ => ?_
  refine wpAny_storeName_local (by kernel_rfl) (ns.keeps k₂) (fun h₃ ns₃ hs₃ => ?_) rfl
  refine norm_sa (h := h₃) (g := s.gens) (d := s.drawn) (o := s.os) ?_
  intro tkn
  replace hs₃ : Heap.SameBut L h₂ h₃ := hs₃
  have k₃ : Keep s.heap h₃ := fun b o e => hs₃.extBut b o (sL e) (k₂ _ _ (k₁ _ _ e))
  refine wpAny_execs_cons (wpAny_If (wpAny_isTrue_Compare1 (Mine.nm_loc ns₃ (v := .none) (by kernel_rfl) (wpAny_Constant_none (wpAny_isNot_self rfl ?_)))))
  refine e_pure (ite_f ?_)
  refine wpAny_execs_nil ?_
  exact wpAny_execs_cons (wpAny_Return_some (Mine.nm_loc ns₃ (v := .bytes (b2st bl).2.2.toArray t₂) (by kernel_rfl) (hQ _ _ _ k₃)))
theorem dec_spec {fl : List Nat} {t : Tok} (X : Cx w s.heap) (hA : OkA A 640 260) (hl : fl.length ≤ 100) (hf : ∀ f ∈ fl, f < 64) (hfin : (a2st fl).1 = 0)
    (hQ : ∀ h' tk t', Keep s.heap h' → Q (.bytes (a2st fl).2.2.toArray t') { s with heap := h', toks := tk }) :
    wpAny (model PySem.Challenge.rw_qh0048_01.row.prog w) A (call (.ref 109) [.bytes (fl.map sgn).toArray t]) Q E s := by
  refine enterP (binds := [(Str.ofString "s", .bytes (fl.map sgn).toArray t), (Str.ofString "altchars", .none), (Str.ofString "validate", .bool false)]) X rfl (by kernel_rfl) (Nat.lt_of_le_of_lt hA.depth (Nat.le_of_ble_eq_true rfl)) ?hb (locs (by kernel_rfl)) rfl rfl rfl (by decide) fun L h₁ tk k₁ fL ns => ?_
  case hb =>
    refine' binds_K X.k rfl rfl rfl ?h1 ?h2
    case h1 => rfl
    case h2 => rfl
  have X₁ : Cx w h₁ := X.keeps k₁
  have sL : ∀ {b : Addr} {o : Obj}, s.heap.get? b = some o → b ≠ L := fun e z => by rw [z, fL] at e; cases e
  refine wpAny_execs_cons (wpAny_Assign_Name (call_fn (a := 36) X₁ (by kernel_rfl) (by kernel_rfl) ?_ (by kernel_rfl) (by kernel_rfl) (by kernel_rfl) (by kernel_rfl)))
  refine spliced_more (Mine.nm_loc ns (v := .bytes (fl.map sgn).toArray t) (by kernel_rfl) ?_)
  refine spliced_none ⟨X₁.k, ?_⟩
  refine bfd_spec (s := ⟨h₁, _, _, _, _⟩) X₁ (hA.deeper.mono (Nat.le_of_ble_eq_true rfl) (Nat.le_of_ble_eq_true rfl)) fun h₂ tk₂ k₂ => ?_
  refine wpAny_storeName_local (by kernel_rfl) (ns.keeps k₂) (fun h₃ ns₃ hs₃ => ?_) rfl
  refine norm_sa (h := h₃) (g := s.gens) (d := s.drawn) (o := s.os) ?_
  intro tkn
  replace hs₃ : Heap.SameBut L h₂ h₃ := hs₃
  have k₃ : Keep s.heap h₃ := fun b o e => hs₃.extBut b o (sL e) (k₂ _ _ (k₁ _ _ e))
  have X₃ : Cx w h₃ := X.keeps k₃
  refine wpAny_execs_cons (wpAny_If (wpAny_isTrue_Compare1 (Mine.nm_loc ns₃ (v := .none) (by kernel_rfl) (wpAny_Constant_none (wpAny_isNot_self rfl ?_)))))
  refine e_pure (ite_f ?_)
  refine wpAny_execs_nil ?_
  refine wpAny_execs_cons (wpAny_Return_some (wpAny_Call_Name_kw (Mine.nm_glob X₃ (v := .ref 85) (by kernel_rfl) (callWith_KW X₃.k (by kernel_rfl) (by kernel_rfl) ?_))))
  refine spliced_more (Mine.nm_loc ns₃ (v := .bytes (fl.map sgn).toArray t) (by kernel_rfl) ?_)
  refine spliced_none ?_
  refine kws_cons (Mine.nm_loc ns₃ (v := .bool false) (by kernel_rfl) ?_)
  refine kws_nil ⟨X₃.k, ?_⟩
  exact a2b_spec (s := ⟨h₃, _, _, _, _⟩) X₃ (hA.deeper.mono (Nat.le_of_ble_eq_true rfl) (Nat.le_of_ble_eq_true rfl)) hl hf hfin fun h₄ tk₄ t₄ k₄ => hQ _ _ _ (k₃.trans k₄)
end
end Mine
end

section
open PySem PySem.W PySem.W.X PyProof.Rows PySem.Calls
namespace Mine
def lows (xs : List Int) : List UInt8 := xs.flatMap low
def figs (x : Int) : List Nat := [u24 x / 262144, u24 x / 4096 % 64, u24 x / 64 % 64, u24 x % 64]
def figL (xs : List Int) : List Nat := xs.flatMap figs
def pcsL (xs : List Int) : List UInt8 := xs.flatMap fun x => (pc x).toList
def rlows (xs : List Int) : List UInt8 := xs.flatMap fun x => (low x).reverse
theorem dm (u n k : Nat) : u / n % k = u % (n * k) / n := (Nat.mod_mul_right_div_self ..).symm
/-- the lowest digit of a number -/
theorem lowd (Z n b : Nat) (h : b < n) : (Z * n + b) % n = b := by rw [Nat.add_comm, Nat.add_mul_mod_self_right, Nat.mod_eq_of_lt h]
theorem topd (Z n b : Nat) (h : b < n) : (Z * n + b) / n = Z := by rw [Nat.add_comm, Nat.add_mul_div_right _ _ (Nat.lt_of_le_of_lt (Nat.zero_le _) h), Nat.div_eq_of_lt h, Nat.zero_add]
theorem r1 (Z b : Nat) (h : b < 256) : (Z * 256 + b) % 65536 % 256 = b := by
  rw [Nat.mod_mod_of_dvd _ (show 256 ∣ 65536 from ⟨256, rfl⟩), lowd _ _ _ h]
theorem r2 (X m : Nat) (h : m < 256) : (X * 256 + m) % 65536 = X % 256 * 256 + m := by
  rw [show 65536 = 256 * 256 from rfl, Nat.mod_mul, lowd _ _ _ h, topd _ _ _ h, Nat.add_comm, Nat.mul_comm]
/-- a number by its octets, in two ways -/
theorem u_hi (a m l : Nat) (hm : m < 256) (hl : l < 256) : (a * 65536 + m * 256 + l) / 65536 = a := by
  rw [show a * 65536 + m * 256 + l = (a * 256 + m) * 256 + l by rw [Nat.add_mul, Nat.mul_assoc], show 65536 = 256 * 256 from rfl, ← Nat.div_div_eq_div_mul, topd _ _ _ hl, topd _ _ _ hm]
theorem u_mid (a m l : Nat) (hl : l < 256) : (a * 65536 + m * 256 + l) / 256 = a * 256 + m := by
  rw [show a * 65536 + m * 256 + l = (a * 256 + m) * 256 + l by rw [Nat.add_mul, Nat.mul_assoc], topd _ _ _ hl]
theorem u_low (a m l : Nat) (hl : l < 256) : (a * 65536 + m * 256 + l) % 256 = l := by
  rw [show a * 65536 + m * 256 + l = (a * 256 + m) * 256 + l by rw [Nat.add_mul, Nat.mul_assoc], lowd _ _ _ hl]
theorem q1 (lc a m l : Nat) (ha : a < 256) (hm : m < 256) (hl : l < 256) : (lc * 256 + a) % 65536 / 4 % 64 = (a * 65536 + m * 256 + l) / 262144 := by
  rw [dm, r1 lc a ha, show 262144 = 65536 * 4 from rfl, ← Nat.div_div_eq_div_mul, u_hi a m l hm hl]
theorem q2 (X m l : Nat) (hm : m < 256) (hl : l < 256) : (X * 256 + m) % 65536 / 16 % 64 = (X % 256 * 65536 + m * 256 + l) / 4096 % 64 := by
  rw [r2 X m hm, show 4096 = 256 * 16 from rfl, ← Nat.div_div_eq_div_mul, u_mid _ m l hl]
theorem q3 (Y a l : Nat) (hl : l < 256) : (Y * 256 + l) % 65536 / 64 % 64 = (a * 65536 + Y % 256 * 256 + l) / 64 % 64 := by
  rw [r2 Y l hl, dm, dm (_ + _ + _), Nat.add_assoc, show a * 65536 = a * 16 * 4096 from (Nat.mul_assoc a 16 4096).symm, Nat.add_comm (_ * 4096), Nat.add_mul_mod_self_right]
theorem q4 (Y a m l : Nat) (hl : l < 256) : (Y * 256 + l) % 65536 / 1 % 64 = (a * 65536 + m * 256 + l) % 64 := by
  rw [Nat.div_one, ← Nat.mod_mod_of_dvd (_ % 65536) (show 64 ∣ 256 from ⟨4, rfl⟩), r1 Y l hl, ← Nat.mod_mod_of_dvd (_ + _ + _) (show 64 ∣ 256 from ⟨4, rfl⟩), u_low a m l hl]
theorem p1 (u : Nat) : u / 262144 * 4 + u / 4096 % 64 / 16 = u / 65536 := by
  rw [show 64 = 16 * 4 from rfl, Nat.mod_mul_right_div_self, Nat.div_div_eq_div_mul, show 262144 = 65536 * 4 from rfl, ← Nat.div_div_eq_div_mul]
  exact Nat.div_add_mod' ..
theorem p2 (u : Nat) : u / 4096 % 64 % 16 * 16 + u / 64 % 64 / 4 = u / 256 % 256 := by
  rw [Nat.mod_mod_of_dvd _ (show 16 ∣ 64 from ⟨4, rfl⟩), show u / 64 % 64 / 4 = u / 64 / 4 % 16 from Nat.mod_mul_right_div_self _ 4 16, Nat.div_div_eq_div_mul, show 4096 = 256 * 16 from rfl, ← Nat.div_div_eq_div_mul u 256 16, Nat.add_comm, Nat.mul_comm (_ % 16) 16]
  exact (Nat.mod_mul (x := u / 256) (a := 16) (b := 16)).symm
theorem p3 (u : Nat) : u / 64 % 64 % 4 * 64 + u % 64 = u % 256 := by
  rw [Nat.mod_mod_of_dvd _ (show 4 ∣ 64 from ⟨16, rfl⟩), Nat.add_comm, Nat.mul_comm]
  exact (Nat.mod_mul (x := u) (a := 64) (b := 4)).symm
theorem s1 (u : Nat) : u = u / 65536 * 65536 + u / 256 % 256 * 256 + u % 256 := by
  rw [show 65536 = 256 * 256 from rfl, ← Nat.div_div_eq_div_mul, ← Nat.mul_assoc, ← Nat.add_mul, Nat.div_add_mod', Nat.div_add_mod']
theorem u24e (x : Int) : ((u24 x : Nat) : Int) = x % 16777216 := Int.toNat_of_nonneg (Int.emod_nonneg _ (by decide))
theorem dmI (x n k : Int) (hn : 0 < n) : x % (n * k) / n = x / n % k := by
  have e : x % (n * k) = x % n + n * (x / n % k) := by
    rw [Int.emod_def x (n * k), Int.emod_def (x / n), Int.emod_def x n, Int.ediv_ediv_of_nonneg (Int.le_of_lt hn), Int.mul_sub, Int.mul_assoc]
    lia
  rw [e, Int.add_mul_ediv_left _ _ (Int.ne_of_gt hn), Int.ediv_eq_zero_of_lt (Int.emod_nonneg _ (Int.ne_of_gt hn)) (Int.emod_lt_of_pos _ hn), Int.zero_add]
theorem t1 (x : Int) : (x % 256).toNat = u24 x % 256 := by
  refine Int.ofNat_inj.mp ?_
  rw [Int.toNat_of_nonneg (Int.emod_nonneg _ (by decide)), Int.natCast_emod, u24e]
  exact (Int.emod_emod_of_dvd x ⟨65536, rfl⟩).symm
theorem t2 (x : Int) : (x / 256 % 256).toNat = u24 x / 256 % 256 := by
  refine Int.ofNat_inj.mp ?_
  rw [Int.toNat_of_nonneg (Int.emod_nonneg _ (by decide)), Int.natCast_emod, Int.natCast_ediv, u24e, show (x % 16777216) / ((256 : Nat) : Int) = x / 256 % 65536 from dmI x 256 65536 (by decide)]
  exact (Int.emod_emod_of_dvd (x / 256) ⟨256, rfl⟩).symm
theorem t3 (x : Int) : (x / 65536 % 256).toNat = u24 x / 65536 := by
  refine Int.ofNat_inj.mp ?_
  rw [Int.toNat_of_nonneg (Int.emod_nonneg _ (by decide)), Int.natCast_ediv, u24e]
  exact (dmI x 65536 256 (by decide)).symm
/-- a number below 2 to the 24th by its octets -/
theorem oct24 (x : Int) : ∃ a m l : Nat, a < 256 ∧ m < 256 ∧ l < 256 ∧ u24 x = a * 65536 + m * 256 + l ∧ (x.fmod 256).toNat = l ∧ ((x.fdiv 256).fmod 256).toNat = m ∧ ((x.fdiv 65536).fmod 256).toNat = a := by
  have f1 : ∀ y : Int, y.fmod 256 = y % 256 := fun y => Int.fmod_eq_emod_of_nonneg _ (by decide)
  have f2 : ∀ n : Int, 0 ≤ n → x.fdiv n = x / n := fun n h => Int.fdiv_eq_ediv_of_nonneg _ h
  rw [f1, f1, f1, f2 _ (by decide), f2 _ (by decide)]
  exact ⟨u24 x / 65536, u24 x / 256 % 256, u24 x % 256, Nat.div_lt_of_lt_mul (u24_lt x), Nat.mod_lt _ (by decide), Nat.mod_lt _ (by decide), s1 _, t1 x, t2 x, t3 x⟩
theorem toN (n : Nat) (h : n < 256) : (UInt8.ofNat n).toNat = n := UInt8.toNat_ofNat_of_lt' h
theorem low3 (x : Int) : ∃ a b c, low x = [a, b, c] := ⟨_, _, _, rfl⟩
theorem lows_len (xs : List Int) : (lows xs).length = 3 * xs.length := by
  induction xs with
  | nil => rfl
  | cons x xs ih =>
    obtain ⟨a, b, c, e⟩ := low3 x
    unfold lows at ih ⊢
    rw [List.flatMap_cons, e, List.length_append, ih]
    show 3 + 3 * xs.length = 3 * (xs.length + 1)
    rw [Nat.mul_succ, Nat.add_comm]
theorem sw3 (q : Nat) : sw (q + 3) = sw q + 3 := by unfold sw; rw [Nat.add_div_right _ (by decide), Nat.add_mod_right, Nat.mul_succ, Nat.add_right_comm]
theorem swap3_cons (a b c : UInt8) (l : List UInt8) : swap3 (a :: b :: c :: l) = c :: b :: a :: swap3 l := by
  have e : ∀ n, List.range (n + 3) = 0 :: 1 :: 2 :: (List.range n).map (· + 3) := fun n => by
    rw [List.range_succ_eq_map, List.range_succ_eq_map, List.range_succ_eq_map]
    simp
  unfold swap3
  rw [show (a :: b :: c :: l).length = l.length + 3 from rfl, e, List.map_cons, List.map_cons, List.map_cons, List.map_map]
  refine congrArg (c :: b :: a :: ·) (List.map_congr_left fun q _ => ?_)
  have : sw (q + 3) = sw q + 3 := sw3 q
  show (a :: b :: c :: l).getD (sw (q + 3)) 0 = _
  rw [this]; rfl
theorem swap3_lows (xs : List Int) : swap3 (lows xs) = rlows xs := by
  induction xs with
  | nil => rfl
  | cons x xs ih =>
    unfold lows rlows at ih ⊢
    obtain ⟨a, b, c, e⟩ := low3 x
    rw [List.flatMap_cons, List.flatMap_cons, ← ih, e]
    exact swap3_cons ..
theorem swap3_rlows (xs : List Int) : swap3 (rlows xs) = lows xs := by
  induction xs with
  | nil => rfl
  | cons x xs ih =>
    unfold lows rlows at ih ⊢
    obtain ⟨a, b, c, e⟩ := low3 x
    rw [List.flatMap_cons, List.flatMap_cons, ← ih, e]
    exact swap3_cons ..
theorem rlows_len (xs : List Int) : (rlows xs).length = 3 * xs.length := by
  rw [← swap3_lows]; unfold swap3; rw [List.length_map, List.length_range, lows_len]
theorem b2_one (lc : Nat) (out : List UInt8) (x : Int) : ∃ lc', ((low x).reverse).foldl b2step (0, lc, out) = (0, lc', out ++ (pc x).toList) := by
  obtain ⟨a, m, l, ha, hm, hl, eu, e1, e2, e3⟩ := oct24 x
  have n1 : ((x.fmod 256).toNat.toUInt8).toNat = l := by rw [e1]; exact toN l hl
  have n2 : (((x.fdiv 256).fmod 256).toNat.toUInt8).toNat = m := by rw [e2]; exact toN m hm
  have n3 : (((x.fdiv 65536).fmod 256).toNat.toUInt8).toNat = a := by rw [e3]; exact toN a ha
  unfold low
  generalize (x.fmod 256).toNat.toUInt8 = b0 at n1 ⊢
  generalize ((x.fdiv 256).fmod 256).toNat.toUInt8 = b1 at n2 ⊢
  generalize ((x.fdiv 65536).fmod 256).toNat.toUInt8 = b2 at n3 ⊢
  subst n1 n2 n3
  refine ⟨_, show (0, _, ((out ++ [emit ((lc * 256 + b2.toNat) % 65536) 2]) ++ [emit (((lc * 256 + b2.toNat) % 65536 * 256 + b1.toNat) % 65536) 4]) ++ [emit ((((lc * 256 + b2.toNat) % 65536 * 256 + b1.toNat) % 65536 * 256 + b0.toNat) % 65536) 6, emit ((((lc * 256 + b2.toNat) % 65536 * 256 + b1.toNat) % 65536 * 256 + b0.toNat) % 65536) 0]) = _ from Prod.ext rfl (Prod.ext rfl ?_)⟩
  rw [List.append_assoc, List.append_assoc]
  refine congrArg (out ++ ·) ?_
  unfold emit pc P0 P1 P2 P3
  rw [eu]
  clear e1 e2 e3 eu
  generalize b0.toNat = l at *
  generalize b1.toNat = m at *
  generalize b2.toNat = a at *
  show [_] ++ ([_] ++ [_, _]) = [_, _, _, _]
  show [sgn ((lc * 256 + a) % 65536 / 4 % 64), sgn (((lc * 256 + a) % 65536 * 256 + m) % 65536 / 16 % 64), sgn ((((lc * 256 + a) % 65536 * 256 + m) % 65536 * 256 + l) % 65536 / 64 % 64), sgn ((((lc * 256 + a) % 65536 * 256 + m) % 65536 * 256 + l) % 65536 / 1 % 64)] = _
  rw [q1 lc a m l ha hm hl, q2 _ m l hm hl, q3 _ a l hl, q4 _ a m l hl, r1 lc a ha, r1 _ m hm]
theorem b2_all (xs : List Int) : ∀ (lc : Nat) (out : List UInt8), ∃ lc', (rlows xs).foldl b2step (0, lc, out) = (0, lc', out ++ pcsL xs) := by
  induction xs with
  | nil => intro lc out; exact ⟨lc, by simp [rlows, pcsL]⟩
  | cons x xs ih =>
    intro lc out
    obtain ⟨l1, e1⟩ := b2_one lc out x
    obtain ⟨l2, e2⟩ := ih l1 (out ++ (pc x).toList)
    refine ⟨l2, ?_⟩
    unfold rlows pcsL at e2 ⊢
    rw [List.flatMap_cons, List.flatMap_cons, List.foldl_append, e1, e2, List.append_assoc]
theorem enc_eq (xs : List Int) : (b2st (swap3 (lows xs))).1 = 0 ∧ (b2st (swap3 (lows xs))).2.2 = pcsL xs := by
  obtain ⟨lc, e⟩ := b2_all xs 0 []
  unfold b2st
  rw [swap3_lows, e]
  exact ⟨rfl, rfl⟩
theorem a2_one (out : List UInt8) (x : Int) : (figs x).foldl a2step (0, 0, out) = (0, 0, out ++ (low x).reverse) := by
  obtain ⟨a, m, l, ha, hm, hl, eu, e1, e2, e3⟩ := oct24 x
  unfold figs low
  rw [eu, e1, e2, e3]
  clear e1 e2 e3 eu
  generalize hu : a * 65536 + m * 256 + l = u
  show (0, 0, ((out ++ [UInt8.ofNat (u / 262144 * 4 + u / 4096 % 64 / 16)]) ++ [UInt8.ofNat (u / 4096 % 64 % 16 * 16 + u / 64 % 64 / 4)]) ++ [UInt8.ofNat (u / 64 % 64 % 4 * 64 + u % 64)]) = (0, 0, out ++ [UInt8.ofNat a, UInt8.ofNat m, UInt8.ofNat l])
  rw [List.append_assoc, List.append_assoc]
  rw [p1, p2, p3]
  subst hu
  rw [u_hi a m l hm hl, u_mid a m l hl, u_low a m l hl, lowd _ _ _ hm]
  rfl
theorem a2_all (xs : List Int) : ∀ (out : List UInt8), (figL xs).foldl a2step (0, 0, out) = (0, 0, out ++ rlows xs) := by
  induction xs with
  | nil => intro out; simp [figL, rlows]
  | cons x xs ih =>
    intro out
    unfold figL rlows at ih ⊢
    rw [List.flatMap_cons, List.flatMap_cons, List.foldl_append, a2_one, ih, List.append_assoc]
theorem dec_eq (xs : List Int) : (a2st (figL xs)).1 = 0 ∧ (a2st (figL xs)).2.2 = rlows xs := by
  unfold a2st
  rw [a2_all]
  exact ⟨rfl, rfl⟩
theorem fig_sgnL (xs : List Int) : (figL xs).map sgn = pcsL xs := by
  unfold figL pcsL
  rw [List.map_flatMap]
  rfl
theorem figL_lt (xs : List Int) : ∀ f ∈ figL xs, f < 64 := by
  intro f hf
  obtain ⟨x, _, hx⟩ := List.mem_flatMap.mp hf
  have hu := u24_lt x
  unfold figs at hx
  rcases List.mem_cons.mp hx with rfl | hx
  · exact Nat.div_lt_of_lt_mul hu
  rcases List.mem_cons.mp hx with rfl | hx
  · exact Nat.mod_lt _ (by decide)
  rcases List.mem_cons.mp hx with rfl | hx
  · exact Nat.mod_lt _ (by decide)
  rw [List.mem_singleton.mp hx]; exact Nat.mod_lt _ (by decide)
theorem figL_len (xs : List Int) : (figL xs).length = 4 * xs.length := by
  induction xs with
  | nil => rfl
  | cons x xs ih => unfold figL at ih ⊢; rw [List.flatMap_cons, List.length_append, ih]; show 4 + 4 * xs.length = 4 * (xs.length + 1); rw [Nat.mul_succ, Nat.add_comm]
theorem pcsL_len (xs : List Int) : (pcsL xs).length = 4 * xs.length := by rw [← fig_sgnL, List.length_map, figL_len]
theorem pcs_cut : ∀ (xs : List Int) (i : Nat), i < xs.length → ((pcsL xs).drop (4 * i)).take 4 = (pc (xs.getD i 0)).toList
  | [], i, h => by cases h
  | x :: xs, 0, _ => by
    unfold pcsL; rw [List.flatMap_cons]; rfl
  | x :: xs, i + 1, h => by
    have ih := pcs_cut xs i (Nat.lt_of_succ_lt_succ h)
    unfold pcsL at ih ⊢
    rw [List.flatMap_cons, show 4 * (i + 1) = 4 + 4 * i by rw [Nat.mul_succ, Nat.add_comm], ← List.drop_drop]
    exact ih
theorem pcs_flat : ∀ (l : List (Array UInt8 × Tok)) (xs : List Int), l.map (·.1) = xs.map pc → (l.map (·.1.toList)).flatten = pcsL xs
  | [], [], _ => rfl
  | [], _ :: _, h => by cases h
  | _ :: _, [], h => by cases h
  | p :: l, x :: xs, h => by
    obtain ⟨h1, h2⟩ := List.cons.inj h
    have ih := pcs_flat l xs h2
    unfold pcsL at ih ⊢
    rw [List.map_cons, List.flatten_cons, List.flatMap_cons, ih, show p.1 = _ from h1]
theorem lows_flat : ∀ (l : List (Array UInt8 × Tok)) (xs : List Int), l.map (·.1) = xs.map (fun x => (low x).toArray) → (l.map (·.1.toList)).flatten = lows xs
  | [], [], _ => rfl
  | [], _ :: _, h => by cases h
  | _ :: _, [], h => by cases h
  | p :: l, x :: xs, h => by
    obtain ⟨h1, h2⟩ := List.cons.inj h
    have ih := lows_flat l xs h2
    unfold lows at ih ⊢
    rw [List.map_cons, List.flatten_cons, List.flatMap_cons, ih, show p.1 = _ from h1]
end Mine
end

section
open PySem PySem.W PySem.W.X PyProof.Rows PySem.Calls
namespace Mine
variable [Inhabited Base]
/-- a place that is like a neighbour, or an end -/
def St (e : Nat) (b : Nat → Bool) (j : Nat) : Prop := j = 0 ∨ j = e ∨ b j = b (j - 1) ∨ b j = b (j + 1)
/-- the nearest such place, d away, says v -/
def Vd (e : Nat) (b : Nat → Bool) (i d : Nat) (v : Bool) : Prop :=
  i ≤ e ∧ ∃ j, (j + d = i ∨ j = i + d) ∧ j ≤ e ∧ St e b j ∧ b j = v ∧ ∀ m, m < i + d → i < m + d → ¬ St e b m
def maj (x y z : Bool) : Bool := (x && y) || (x && z) || (y && z)
/-- one step, on what is said -/
def Stp (e : Nat) (b b' : Nat → Bool) : Prop := ∀ j, j ≤ e → b' j = if j = 0 ∨ j = e then b j else maj (b (j - 1)) (b j) (b (j + 1))
theorem maj_st {x y z : Bool} (h : y = x ∨ y = z) : maj x y z = y := by revert h; cases x <;> cases y <;> cases z <;> decide
theorem maj_ne {x y z : Bool} (h : ¬ (y = x ∨ y = z)) : maj x y z = !y := by revert h; cases x <;> cases y <;> cases z <;> decide
theorem bne_not {x y : Bool} (h : ¬ x = y) : y = !x := by revert h; cases x <;> cases y <;> decide
theorem st_stays {e : Nat} {b b' : Nat → Bool} {j : Nat} (s : Stp e b b') (hj : j ≤ e) (h : St e b j) : b' j = b j := by
  rw [s j hj]
  by_cases q : j = 0 ∨ j = e
  · rw [if_pos q]
  · rw [if_neg q]
    refine maj_st ?_
    rcases h with h | h | h | h
    · exact absurd (.inl h) q
    · exact absurd (.inr h) q
    · exact .inl h
    · exact .inr h
theorem st_flips {e : Nat} {b b' : Nat → Bool} {j : Nat} (s : Stp e b b') (hj : j ≤ e) (h : ¬ St e b j) : b' j = !(b j) := by
  have q : ¬ (j = 0 ∨ j = e) := fun q => h (q.elim .inl fun z => .inr (.inl z))
  rw [s j hj, if_neg q]
  exact maj_ne fun z => h (z.elim (fun z => .inr (.inr (.inl z))) fun z => .inr (.inr (.inr z)))
theorem vd_step {e : Nat} {b b' : Nat → Bool} {i d : Nat} {v : Bool} (s : Stp e b b') (h : Vd e b i d v) : Vd e b' i (d - 1) v := by
  obtain ⟨hi, j, hd, hj, hst, hv, hn⟩ := h
  cases d with
  | zero =>
    obtain rfl : j = i := by lia
    refine ⟨hi, j, .inl rfl, hj, ?_, (st_stays s hj hst).trans hv, fun m h1 h2 => by lia⟩
    rcases hst with z | z | z | z
    · exact .inl z
    · exact .inr (.inl z)
    · by_cases q : j = 0
      · exact .inl q
      · refine .inr (.inr (.inl ?_))
        have s2 : St e b (j - 1) := by
          refine .inr (.inr (.inr ?_))
          rw [show j - 1 + 1 = j by lia]; exact z.symm
        rw [st_stays s hj (.inr (.inr (.inl z))), st_stays s (by lia) s2]; exact z
    · by_cases q : j = e
      · exact .inr (.inl q)
      · refine .inr (.inr (.inr ?_))
        have s2 : St e b (j + 1) := by
          refine .inr (.inr (.inl ?_))
          rw [show j + 1 - 1 = j by lia]; exact z.symm
        rw [st_stays s hj (.inr (.inr (.inr z))), st_stays s (by lia) s2]; exact z
  | succ d =>
    have h0 : ¬ St e b 0 ∨ d + 1 ≤ i := by
      by_cases q : d + 1 ≤ i
      · exact .inr q
      · exact .inl (hn 0 (by lia) (by lia))
    have h0 : d + 1 ≤ i := h0.resolve_left fun z => z (.inl rfl)
    have he : i + (d + 1) ≤ e := by
      by_cases q : i + (d + 1) ≤ e
      · exact q
      · exact absurd (.inr (.inl rfl)) (hn e (by lia) (by lia))
    rw [Nat.add_sub_cancel]
    have inner : ∀ m, m < i + d → i < m + d → ¬ St e b' m := by
      intro m h1 h2 z
      have m0 := hn m (by lia) (by lia)
      have m1 := hn (m - 1) (by lia) (by lia)
      have m2 := hn (m + 1) (by lia) (by lia)
      have f0 := st_flips s (by lia) m0
      have f1 := st_flips s (by lia) m1
      have f2 := st_flips s (by lia) m2
      rcases z with z | z | z | z
      · exact m0 (.inl z)
      · exact m0 (.inr (.inl z))
      · rw [f0, f1] at z
        exact m0 (.inr (.inr (.inl (by revert z; cases b m <;> cases b (m - 1) <;> decide))))
      · rw [f0, f2] at z
        exact m0 (.inr (.inr (.inr (by revert z; cases b m <;> cases b (m + 1) <;> decide))))
    rcases hd with hd | hd
    · have ns := hn (j + 1) (by lia) (by lia)
      have f1 := st_flips s (by lia) ns
      have f0 := st_stays s hj hst
      have ne : ¬ b (j + 1) = b j := fun z => ns (.inr (.inr (.inl (by rw [Nat.add_sub_cancel]; exact z))))
      have eq : b' (j + 1) = v := by rw [f1, ← hv]; exact (bne_not ne).symm
      refine ⟨hi, j + 1, .inl (by lia), by lia, .inr (.inr (.inl ?_)), eq, inner⟩
      rw [Nat.add_sub_cancel, eq, f0, hv]
    · have ns := hn (j - 1) (by lia) (by lia)
      have f1 := st_flips s (by lia) ns
      have f0 := st_stays s hj hst
      have ne : ¬ b (j - 1) = b j := fun z => ns (.inr (.inr (.inr (by rw [show j - 1 + 1 = j by lia]; exact z))))
      have eq : b' (j - 1) = v := by rw [f1, ← hv]; exact (bne_not ne).symm
      refine ⟨hi, j - 1, .inr (by lia), by lia, .inr (.inr (.inr ?_)), eq, inner⟩
      rw [show j - 1 + 1 = j by lia, eq, f0, hv]
theorem vd_le {e : Nat} {b : Nat → Bool} {i d : Nat} {v : Bool} (h : Vd e b i d v) : d ≤ e / 2 := by
  obtain ⟨hi, j, hd, hj, hst, hv, hn⟩ := h
  by_cases q : d ≤ i
  · by_cases q2 : i + d ≤ e
    · lia
    · exact absurd (.inr (.inl rfl)) (hn e (by lia) (by lia))
  · exact absurd (.inl rfl) (hn 0 (by lia) (by lia))
theorem vd_zero {e : Nat} {b : Nat → Bool} {i : Nat} {v : Bool} (h : Vd e b i 0 v) : b i = v := by
  obtain ⟨hi, j, hd, hj, hst, hv, hn⟩ := h
  obtain rfl : j = i := by lia
  exact hv
/-- many steps -/
theorem vd_steps {e : Nat} {f : Nat → Nat → Bool} (s : ∀ k, Stp e (f k) (f (k + 1))) {i d : Nat} {v : Bool} (h : Vd e (f 0) i d v) : ∀ k, Vd e (f k) i (d - k) v
  | 0 => h
  | k + 1 => by have := vd_step (s k) (vd_steps s h k); rwa [show d - k - 1 = d - (k + 1) by lia] at this
theorem vd_rest {e : Nat} {f : Nat → Nat → Bool} (s : ∀ k, Stp e (f k) (f (k + 1))) {i d k : Nat} {v : Bool} (h : Vd e (f 0) i d v) (hk : e / 2 ≤ k) : f k i = v := by
  have := vd_steps s h k
  rw [show d - k = 0 by have := vd_le h; lia] at this
  exact vd_zero this
/-- what _law_holds tells -/
theorem stB_iff {bs : List Bool} {j : Nat} (h : 0 < bs.length) : stB bs j = true ↔ St (bs.length - 1) (fun m => bs.getD m false) j := by
  unfold stB St
  simp only [Bool.or_eq_true, beq_iff_eq]
theorem near_min {bs : List Bool} {i j : Nat} (hj : j ∈ stL bs) : nearB bs i ≤ dst i j := by
  cases e : ((stL bs).map (dst i)).min? with
  | none =>
    rw [List.min?_eq_none_iff, List.map_eq_nil_iff] at e
    rw [e] at hj; cases hj
  | some x =>
    have hx := List.min?_eq_some_iff.mp e
    have hn : nearB bs i = x := by unfold nearB; rw [e]; rfl
    rw [hn]
    exact hx.2 _ (List.mem_map_of_mem hj)
theorem end_st {bs : List Bool} (h : 0 < bs.length) : bs.length - 1 ∈ stL bs := by
  unfold stL; rw [List.mem_filter]
  refine ⟨List.mem_range.mpr (by lia), ?_⟩
  unfold stB
  simp
theorem holds_vd {bs : List Bool} {i : Nat} (hi : i < bs.length) : Vd (bs.length - 1) (fun m => bs.getD m false) i (nearB bs i) (holdsB bs i) := by
  obtain ⟨hle, j, hj, hd⟩ := near_at (bs := bs) (i := i) (by lia)
  have hnear : ∀ m, m < i + nearB bs i → i < m + nearB bs i → ¬ St (bs.length - 1) (fun m => bs.getD m false) m := by
    intro m h1 h2 hs
    have he := near_min (i := i) (end_st (bs := bs) (by lia))
    unfold dst at he
    have hm : m ∈ stL bs := by
      unfold stL; rw [List.mem_filter]
      exact ⟨List.mem_range.mpr (by lia), (stB_iff (by lia)).mpr hs⟩
    have := near_min (i := i) hm
    unfold dst at this
    lia
  unfold holdsB
  cases q : stB bs (i - nearB bs i) with
  | true =>
    rw [if_pos rfl]
    exact ⟨by lia, i - nearB bs i, .inl (by lia), by lia, (stB_iff (by lia)).mp q, rfl, hnear⟩
  | false =>
    rw [if_neg Bool.false_ne_true]
    have up := near_up (by lia) q
    have hj2 : j = i + nearB bs i := by
      unfold dst at hd
      by_cases z : j ≤ i
      · have : j = i - nearB bs i := by lia
        rw [← this] at q
        unfold stL at hj; rw [List.mem_filter] at hj
        rw [hj.2] at q; cases q
      · lia
    subst hj2
    unfold stL at hj; rw [List.mem_filter] at hj
    exact ⟨by lia, i + nearB bs i, .inr rfl, by lia, (stB_iff (by lia)).mp hj.2, rfl, hnear⟩
/-- the step, place by place -/
theorem step_getD {xs : List Int} {j : Nat} (h : 2 ≤ xs.length) (hj : j ≤ xs.length - 1) :
    (stepL xs).getD j 0 = if j = 0 ∨ j = xs.length - 1 then xs.getD j 0 else med (xs.getD (j - 1) 0) (xs.getD j 0) (xs.getD (j + 1) 0) := by
  unfold stepL
  rw [List.getD_eq_getElem?_getD]
  by_cases q : j = 0
  · subst q
    rw [if_pos (.inl rfl), List.append_assoc, List.getElem?_append_left (by rw [List.length_take]; lia), List.getElem?_take, if_pos (by lia), ← List.getD_eq_getElem?_getD]
  by_cases q2 : j = xs.length - 1
  · rw [if_pos (.inr q2), List.getElem?_append_right (by simp; lia), List.getElem?_drop, List.getD_eq_getElem?_getD]
    congr 2
    simp; lia
  · rw [if_neg (fun z => z.elim q q2), List.getElem?_append_left (by simp; lia), List.getElem?_append_right (by rw [List.length_take]; lia)]
    rw [List.length_take, show min 1 xs.length = 1 by lia, List.getElem?_map, List.getElem?_range (by lia)]
    show med _ _ _ = _
    rw [show j - 1 + 1 = j by lia, show j - 1 + 2 = j + 1 by lia]
theorem max_ge (x y t : Int) : decide (max x y ≥ t) = (decide (x ≥ t) || decide (y ≥ t)) := by
  rw [Bool.eq_iff_iff, Bool.or_eq_true]; simp only [decide_eq_true_eq]; lia
theorem min_ge (x y t : Int) : decide (min x y ≥ t) = (decide (x ≥ t) && decide (y ≥ t)) := by
  rw [Bool.eq_iff_iff, Bool.and_eq_true]; simp only [decide_eq_true_eq]; lia
theorem maj_eq : ∀ p q r : Bool, (p && q || (p || q) && r) = maj p q r := by decide
theorem med_ge {a b c t : Int} : decide (med a b c ≥ t) = maj (decide (a ≥ t)) (decide (b ≥ t)) (decide (c ≥ t)) := by
  unfold med
  rw [max_ge, min_ge, min_ge, max_ge, maj_eq]
theorem stp_thr {xs : List Int} (h : 2 ≤ xs.length) (t : Int) (k : Nat) : Stp (xs.length - 1) (fun j => decide ((stepN k xs).getD j 0 ≥ t)) (fun j => decide ((stepN (k + 1) xs).getD j 0 ≥ t)) := by
  intro j hj
  have hl : (stepN k xs).length = xs.length := stepN_len h k
  show decide ((stepL (stepN k xs)).getD j 0 ≥ t) = _
  rw [step_getD (by lia) (by lia), hl]
  by_cases q : j = 0 ∨ j = xs.length - 1
  · rw [if_pos q, if_pos q]
  · rw [if_neg q, if_neg q, med_ge]
theorem thr_getD {xs : List Int} {t : Int} {j : Nat} (h : j < xs.length) : (thr xs t).getD j false = decide (xs.getD j 0 ≥ t) := by
  unfold thr
  rw [List.getD_eq_getElem?_getD, List.getElem?_map, List.getElem?_eq_getElem h, List.getD_eq_getElem?_getD, List.getElem?_eq_getElem h]
  rfl
theorem st_congr {e : Nat} {b b' : Nat → Bool} (h : ∀ m, m ≤ e → b m = b' m) {j : Nat} (hj : j ≤ e) (s : St e b' j) : St e b j := by
  by_cases q : j = e
  · exact .inr (.inl q)
  rcases s with z | z | z | z
  · exact .inl z
  · exact .inr (.inl z)
  · exact .inr (.inr (.inl (by rw [h j hj, h (j - 1) (by lia)]; exact z)))
  · exact .inr (.inr (.inr (by rw [h j hj, h (j + 1) (by lia)]; exact z)))
theorem vd_congr {e : Nat} {b b' : Nat → Bool} (h : ∀ m, m ≤ e → b m = b' m) {i d : Nat} {v : Bool} (x : Vd e b i d v) : Vd e b' i d v := by
  have hd := vd_le x
  obtain ⟨hi, j, hd2, hj, hst, hv, hn⟩ := x
  refine ⟨hi, j, hd2, hj, st_congr (fun m hm => (h m hm).symm) hj hst, (h j hj).symm.trans hv, fun m h1 h2 s => hn m h1 h2 (st_congr h ?_ s)⟩
  by_cases q : i + d ≤ e
  · lia
  · exact absurd (.inr (.inl rfl)) (hn e (by lia) (by lia))
/-- at rest: the row says at each place what _law_holds tells of each threshold -/
theorem rest_thr {xs : List Int} (h : 2 ≤ xs.length) (t : Int) {i : Nat} (hi : i < xs.length) : decide ((stepN ((xs.length - 1) / 2) xs).getD i 0 ≥ t) = holdsB (thr xs t) i := by
  have hlen : (thr xs t).length = xs.length := by unfold thr; rw [List.length_map]
  have v := holds_vd (bs := thr xs t) (i := i) (by lia)
  rw [hlen] at v
  have v2 : Vd (xs.length - 1) (fun j => decide ((stepN 0 xs).getD j 0 ≥ t)) i (nearB (thr xs t) i) (holdsB (thr xs t) i) := by
    exact vd_congr (fun m hm => thr_getD (xs := xs) (by lia)) v
  exact vd_rest (f := fun k j => decide ((stepN k xs).getD j 0 ≥ t)) (fun k => stp_thr h t k) v2 (Nat.le_refl _)
theorem stepN_mem {xs : List Int} (h : 2 ≤ xs.length) : ∀ k, ∀ x ∈ stepN k xs, x ∈ xs := by
  intro k
  induction k with
  | zero => exact fun x hx => hx
  | succ k ih =>
    intro x hx
    have hl : (stepN k xs).length = xs.length := stepN_len h k
    refine ih x ?_
    obtain ⟨j, hj, e⟩ := List.getElem_of_mem hx
    have hj' : j < xs.length := by have := stepN_len h (k + 1); lia
    have e2 : x = (stepL (stepN k xs)).getD j 0 := by
      rw [← e, List.getD_eq_getElem?_getD]
      show _ = (stepN (k + 1) xs)[j]?.getD 0
      rw [List.getElem?_eq_getElem hj]; rfl
    rw [step_getD (by lia) (by lia)] at e2
    split at e2
    · rw [e2]; exact getD_mem (by lia)
    · rename_i q
      rcases med_or ((stepN k xs).getD (j - 1) 0) ((stepN k xs).getD j 0) ((stepN k xs).getD (j + 1) 0) with z | z | z
      · rw [e2, z]; exact getD_mem (by lia)
      · rw [e2, z]; exact getD_mem (by lia)
      · rw [e2, z]; exact getD_mem (by rw [hl] at q ⊢; lia)
theorem due_rest {xs : List Int} (h : 2 ≤ xs.length) {i : Nat} {M : Int} (hi : i < xs.length) (d : DueAt xs i M) : M = (stepN ((xs.length - 1) / 2) xs).getD i 0 := by
  obtain ⟨hm, hh, hmax⟩ := d
  have hl : (stepN ((xs.length - 1) / 2) xs).length = xs.length := stepN_len h _
  have h1 := rest_thr h M hi
  rw [hh] at h1
  have h2 := rest_thr h ((stepN ((xs.length - 1) / 2) xs).getD i 0) hi
  rw [decide_eq_true (Int.le_refl _)] at h2
  have h3 := hmax _ (stepN_mem h _ _ (getD_mem (by lia))) h2.symm
  have h4 := of_decide_eq_true h1
  lia
end Mine
end

section
open PySem PySem.W PySem.W.X PyProof.Rows PySem.Calls
namespace Mine
variable [Inhabited Base]
section
variable {w : World} {A : Around} {E Q : Value → Shared → Prop} {s : Shared} {env : Env}
theorem callerOk : OkA callerA 301 4 := ⟨rfl, Nat.le_of_ble_eq_true rfl, Nat.le_of_ble_eq_true rfl, rfl, ⟨[], rfl⟩⟩
theorem list_rule {elts : List Expr} {pos : Pos}
    (h : wpAny (model PySem.Challenge.rw_qh0048_01.row.prog w) A (spliced (backTo pos (starEach elts env))) (fun vs s₁ => vs.length ≤ 1000 ∧ ∀ D h', Keep s₁.heap h' → s₁.heap.get? D = none → h'.PlainList D vs.toArray → Q (.ref D) { s₁ with heap := h' }) E s) :
    wpAny (model PySem.Challenge.rw_qh0048_01.row.prog w) A (eval (.List elts pos) env) Q E s := by
  refine wpAny_List_spliced (wpAny_mono h (fun vs s₁ h₁ => ⟨by rw [sizeLine_eq]; lia, h₁.2 _ _ (fun b o e => Heap.get?_push_of_some _ e) (get_size_none _) ⟨0, Heap.get?_push_size _ rfl⟩⟩) fun _ _ e => e)
theorem cut_eq (b : List UInt8) (i : Nat) : KBy.picked b.toArray (some ((4 * i : Nat) : Int)) (some ((4 * i + 4 : Nat) : Int)) = ((b.drop (4 * i)).take 4).toArray ∨ b.length < 4 * i + 4 := by
  by_cases q : b.length < 4 * i + 4
  · exact .inr q
  refine .inl ?_
  rw [KBc.picked_eq]
  show ((b.drop (clipAt _ _)).take (clipAt _ _ - clipAt _ _)).toArray = _
  rw [clipAt_nat, clipAt_nat, List.size_toArray, Nat.min_eq_left (by lia), Nat.min_eq_left (by lia), show 4 * i + 4 - 4 * i = 4 by lia]
/-- the samples that the law builds -/
def smp (ns : List Int) : List Int := [3, -2, 4, -1] ++ (ns.take 6).map fun x => (x + 8388608).fmod 16777216 - 8388608
theorem smp_in (ns : List Int) : ∀ x ∈ smp ns, InR x := by
  intro x hx
  rcases List.mem_append.mp hx with h | h
  · simp only [List.mem_cons, List.not_mem_nil, or_false] at h
    unfold InR; lia
  · obtain ⟨y, _, rfl⟩ := List.mem_map.mp h
    rw [Int.fmod_eq_emod_of_nonneg _ (by lia)]
    unfold InR; lia
theorem smp_len (ns : List Int) : 4 ≤ (smp ns).length ∧ (smp ns).length ≤ 10 := by
  unfold smp
  rw [List.length_append, List.length_map, List.length_take]
  show 4 ≤ 4 + _ ∧ 4 + _ ≤ 10
  lia
theorem pair_low : ∀ {vs : List Value} {ns : List Int} {zs : List Value}, IntsAre vs ns → Paired (fun v y : Value => ∃ n t t', v = .int n t ∧ y = .bytes (low n).toArray t') vs zs → ∃ L, zs = btsV L ∧ L.map (·.1) = ns.map fun x => (low x).toArray
  | _, _, _, .nil, h => by cases h; exact ⟨[], rfl, rfl⟩
  | _, _, _, .cons n t hi, h => by
    cases h with
    | cons e h =>
      obtain ⟨n', t1, t2, e1, rfl⟩ := e
      cases e1
      obtain ⟨L, rfl, e2⟩ := pair_low hi h
      exact ⟨((low n).toArray, t2) :: L, rfl, by rw [List.map_cons, List.map_cons, e2]⟩
theorem pcs_bts : ∀ {items : List Value} {xs : List Int}, IsPcs items xs → ∃ L, items = btsV L ∧ L.map (·.1) = xs.map pc
  | [], [], _ => ⟨[], rfl, rfl⟩
  | [], _ :: _, h => by have := h.1; cases this
  | _ :: _, [], h => by have := h.1; cases this
  | v :: items, x :: xs, h => by
    obtain ⟨t, e⟩ := h.2 0 x rfl
    cases e
    obtain ⟨L, rfl, e2⟩ := pcs_bts (items := items) (xs := xs) ⟨Nat.succ.inj h.1, fun j y e => h.2 (j + 1) y e⟩
    exact ⟨(pc x, t) :: L, rfl, by rw [List.map_cons, List.map_cons, e2]⟩
theorem ints_of : ∀ {vs : List Value} {ns : List Int}, vs.length = ns.length → (∀ (i : Nat) (v : Value), vs[i]? = some v → ∃ t, v = .int (ns.getD i 0) t) → IntsAre vs ns
  | [], [], _, _ => .nil
  | [], _ :: _, h, _ => by cases h
  | _ :: _, [], h, _ => by cases h
  | v :: vs, n :: ns, h, k => by
    obtain ⟨t, rfl⟩ := k 0 v rfl
    exact .cons _ _ (ints_of (Nat.succ.inj h) fun i u e => k (i + 1) u e)
theorem due_ints {xs : List Int} {ys : Array Value} (h : 2 ≤ xs.length) (hs : ys.size = xs.length) (hd : ∀ i v, ys[i]? = some v → ∃ M t, v = .int M t ∧ DueAt xs i M) : IntsAre ys.toList (stepN ((xs.length - 1) / 2) xs) := by
  refine ints_of (by rw [stepN_len h]; simpa using hs) fun i v e => ?_
  rw [Array.getElem?_toList] at e
  have hi : i < xs.length := by
    rw [← hs]
    by_cases q : i < ys.size
    · exact q
    · rw [Array.getElem?_eq_none (by lia)] at e; cases e
  obtain ⟨M, t, rfl, d⟩ := hd i v e
  exact ⟨t, by rw [← due_rest h hi d]⟩
theorem smp_ints {vs ys : List Value} {ns : List Int} (hI : IntsAre vs (ns.take 6)) {t1 t2 t3 t4 : Tok} (h : Paired (fun v y : Value => ∃ n t t', v = .int n t ∧ y = .int ((n + 8388608).fmod 16777216 - 8388608) t') vs ys) :
    IntsAre ([.int 3 t1, .int (-2) t2, .int 4 t3, .int (-1) t4] ++ ys) (smp ns) := by
  have := map_ints (f := fun x => (x + 8388608).fmod 16777216 - 8388608) hI h
  exact .cons _ _ (.cons _ _ (.cons _ _ (.cons _ _ this)))
theorem filt_true (vs : List Value) : vs.filter (fun _ => true) = vs := List.filter_eq_self.mpr fun _ _ => rfl
theorem same_list {vs : List Value} {items : Array Value} (hl : vs.length = items.size) (h : ∀ (j : Nat) (v : Value), vs[j]? = some v → items[j]? = some v) : vs = items.toList := by
  refine List.ext_getElem? fun j => ?_
  by_cases q : j < vs.length
  · rw [List.getElem?_eq_getElem q]
    have := h j _ (List.getElem?_eq_getElem q)
    rw [Array.getElem?_toList, this]
  · rw [List.getElem?_eq_none (by lia), List.getElem?_eq_none (by simp; lia)]
theorem join_low {D : Addr} {ys : Array Value} {xs : List Int} {t : Tok} (oD : s.heap.PlainList D ys) (hJ : ∃ L, ys.toList = btsV L ∧ L.map (·.1) = xs.map fun x => (low x).toArray) (h2 : 2 ≤ xs.length) (h3 : xs.length ≤ 100)
    (hQ : ∀ tk t', Q (.bytes (lows xs).toArray t') { s with toks := tk }) : wpAny (model PySem.Challenge.rw_qh0048_01.row.prog w) A (call (.builtin "bytes.join") [.bytes #[] t, .ref D]) Q E s := by
  obtain ⟨L, e1, e2⟩ := hJ
  have el : L.length = xs.length := by have := congrArg List.length e2; simpa using this
  have ef := lows_flat L xs e2
  refine join_rule (L := L) (by lia) ?_ (by rw [ef, lows_len]; lia) fun tk t' => ?_
  · rw [← e1]; exact oD.isList
  · rw [ef]; exact hQ tk t'
theorem join_pcs {D : Addr} {ys : Array Value} {xs : List Int} {t : Tok} (oD : s.heap.PlainList D ys) (hJ : IsPcs ys.toList xs) (h2 : 2 ≤ xs.length) (h3 : xs.length ≤ 100)
    (hQ : ∀ tk t', Q (.bytes ((figL xs).map sgn).toArray t') { s with toks := tk }) : wpAny (model PySem.Challenge.rw_qh0048_01.row.prog w) A (call (.builtin "bytes.join") [.bytes #[] t, .ref D]) Q E s := by
  obtain ⟨L, e1, e2⟩ := pcs_bts hJ
  have el : L.length = xs.length := by have := congrArg List.length e2; simpa using this
  have ef := pcs_flat L xs e2
  refine join_rule (L := L) (by lia) ?_ (by rw [ef, pcsL_len]; lia) fun tk t' => ?_
  · rw [← e1]; exact oD.isList
  · rw [ef, ← fig_sgnL]; exact hQ tk t'
theorem mul3 {a b c : Int} {t u : Tok} (hm : IntMulOk a b) (e : a * b = c) (h : ∀ tk t', Q (.int c t') { s with toks := tk }) : wpAny (model PySem.Challenge.rw_qh0048_01.row.prog w) A (binaryOp .Mult (.int a t) (.int b u)) Q E s :=
  PyProof.Rows.mul_int (by rw [e]; exact h _ _) hm
theorem fdiv3 {a b c : Int} {t u : Tok} (hb : b ≠ 0) (hb2 : b.natAbs < 1073741824) (e : a.fdiv b = c) (h : ∀ tk t', Q (.int c t') { s with toks := tk }) : wpAny (model PySem.Challenge.rw_qh0048_01.row.prog w) A (binaryOp .FloorDiv (.int a t) (.int b u)) Q E s :=
  PyProof.Rows.floordiv_int hb (by rw [e]; exact h _ _) (.inl (PyProof.noPylong_small hb2))
theorem four_ok (b : Int) : IntMulOk 4 b := .of_left (by decide)
theorem pcs_of {vs ps : List Value} {xs : List Int} (hl : vs.length = xs.length) (hv : ∀ (j : Nat) (v : Value), vs[j]? = some v → j < xs.length ∧ ∃ t, v = .int (0 + (j : Int) * 1) t)
    (h : Paired (fun v y : Value => ∃ (j : Nat) (t t' : Tok), v = .int (j : Int) t ∧ j < xs.length ∧ y = .bytes (pc (xs.getD j 0)) t') vs ps) : IsPcs ps xs := by
  refine ⟨by rw [← h.length, hl], fun j x e => ?_⟩
  have hj : j < xs.length := by
    by_cases q : j < xs.length
    · exact q
    · rw [List.getElem?_eq_none (by lia)] at e; cases e
  have hj2 : j < vs.length := by lia
  obtain ⟨y, e2, k, t, t', e3, _, rfl⟩ := paired_get h j _ (List.getElem?_eq_getElem hj2)
  obtain ⟨_, u, e4⟩ := hv j _ (List.getElem?_eq_getElem hj2)
  rw [e3] at e4
  injection e4 with e5
  have hk : k = j := by lia
  rw [hk, List.getD_eq_getElem?_getD, e] at e2
  exact ⟨t', e2⟩
theorem withN_K {pos : Pos} {a : Addr} {e : Expr} {rest : List Expr} (hk : fnIn (K1 w.params) a = true)
    (h : wpN (model PySem.Challenge.rw_qh0048_01.row.prog w) A (spliced (backTo pos (starEach (e :: rest) env))) (fun vs s₁ => (K1 w.params).In s₁.heap ∧ wpN (model PySem.Challenge.rw_qh0048_01.row.prog w) A (call (.ref a) vs) Q E s₁) E s)
    (he : starEach (e :: rest) env = (false, eval e env) :: starEach rest env := by rfl) :
    wpN (model PySem.Challenge.rw_qh0048_01.row.prog w) A (callWith pos (.ref a) [] (backTo pos (starEach (e :: rest) env)) []) Q E s := by
  unfold fnIn at hk
  split at hk
  · rename_i fd _ hfo
    exact withN_def (fd := fd) rfl (wpN_mono h (fun vs s₁ h₁ => ⟨h₁.1 _ _ hfo, h₁.2⟩) fun _ _ x => x) he
  · cases hk
end
end Mine
end

section
open PySem PySem.W PySem.W.X PyProof.Rows PySem.Calls
namespace Mine
theorem top_of {p : Program} {loose : List Str} {mean : ExcName → Option Value} {mg mb : Str → Option Value} {h : Heap} (T : Top p loose mean mg mb h) : ∃ loose mean mg mb, Top topProg loose mean mg mb h :=
  ⟨_, mean, mg, mb, ghost_top (tabs := []) (by intro a ha; cases ha) T⟩
/-- the code table of cmp_to_key is empty at the start -/
theorem tab111 (P : Params) : (Hd.hd.heap_164 P).lookup 111 = some ⟨.none, none, .fields #[], #[]⟩ := by kernel_rfl
def keys1 : List Addr := [0, 1, 2, 3, 4, 5, 6, 7, 9, 10, 11, 13, 14, 15, 17, 18, 19, 20, 21, 22, 24, 25, 26, 27, 28, 29, 30, 32, 33, 34, 35, 36, 37, 44, 45, 46, 47, 50, 52, 53, 54, 55, 56, 57, 59, 60, 61, 62, 63, 64, 66, 67, 68, 69, 70, 71, 73, 74, 75, 76, 77, 78, 79, 81, 82, 83, 84, 85, 86, 87, 89, 90, 91, 92, 93, 94, 95, 97, 98, 99, 100, 101, 102, 103, 105, 106, 107, 108, 109, 110, 112, 113, 114, 115, 116, 117, 118, 119, 121, 122, 123, 124, 125, 126, 128, 129, 130, 131, 132, 133, 135, 136, 137, 138, 139, 140, 142, 143, 144, 145, 147, 148, 149, 150, 151, 152, 154, 155, 156, 157, 159, 160, 161, 162, 164, 165, 166, 167, 169, 170, 171]
theorem k1_eq (P : Params) : K1 P = keys1.map fun a => (a, lk P a) := rfl
theorem keys_some (P : Params) : (keys1.all fun a => ((Hd.hd.heap_164 P).lookup a).isSome) = true := by kernel_rfl
theorem lookup_map {α : Type} {f : Addr → α} {a : Addr} {o : α} : ∀ {l : List Addr}, (l.map fun a => (a, f a)).lookup a = some o → a ∈ l ∧ o = f a
  | [], e => by cases e
  | b :: l, e => by
    rw [List.map_cons, List.lookup_cons] at e
    split at e
    · rename_i q; cases e; rw [beq_iff_eq.mp q]; exact ⟨.head _, rfl⟩
    · have := lookup_map e; exact ⟨.tail _ this.1, this.2⟩
theorem in_of {P : Params} {h : Heap} (X : (Hd.hd.heap_164 P).In h) : (K1 P).In h := by
  intro a o e
  refine X a o ?_
  rw [k1_eq] at e
  obtain ⟨h1, rfl⟩ := lookup_map e
  have := List.all_eq_true.mp (keys_some P) a h1
  unfold lk
  cases q : (Hd.hd.heap_164 P).lookup a with
  | none => rw [q] at this; cases this
  | some o => rfl

def LawOk : Prop := ∀ (w : World) (s : Shared) (l : Addr) (vs : List Value) (ns : List Int), Cx w s.heap → s.heap.get? 111 = some ⟨.none, none, .fields #[], #[]⟩ → s.heap.IsList l vs.toArray → IntsAre vs ns → ns.length ≤ 63 →
  wpN (model PySem.Challenge.rw_qh0048_01.row.prog w) callerA (call (.ref 171) [.ref l]) (fun v s' => ∃ h' tk, v = .bool true ∧ s' = { s with heap := h', toks := tk } ∧ OldK s.heap h') (fun _ _ => False) s
theorem glue (H : LawOk) : PySem.Challenge.rw_qh0048_01.Holds := by
  refine Hd.hd ?_
  rintro w s₀ s₁ args vals as fa ⟨⟨mg, mb, G, hmg⟩, Y, ⟨hpre, hlay⟩, L, hlo⟩ p
  have keeps := L.keeps
  have hg := L.gens
  have hrd := L.reads
  have hwl := L.well
  clear L
  have KX := Frag.In.keeps (X.z_facts (fun _ => by kernel_rfl) Y).2.1 keeps
  have T := Ground.T G
  wrow_args hpre hlay hrd hwl hlo
  rename_i ns _ _ _ _ _ _ _ l vs _ hl _ _ _ hI _ hcond _
  have hfa := mg_of KX T.g (n := Str.ofString "law") (v := .ref 171) (by kernel_rfl)
  have e2 : Value.ref fa = Value.ref 171 := Option.some.inj ((show mg (Str.ofString "law") = some (.ref fa) from hmg).symm.trans hfa)
  rw [e2]
  have h63 : ns.length ≤ 63 := by omega
  refine top0_call ?_ p
  refine wpN_mono (H w s₁ l vs ns ⟨in_of KX, top_of T⟩ (KX 111 _ (tab111 _)) hl hI h63) ?_ (fun _ _ q => q.elim)
  rintro _ _ ⟨h', tk, rfl, rfl, hk⟩
  refine ⟨.inl ⟨.bool true, .bool true, [], rfl, fun _ => rfl, .bool _, ?_, fun _ => ⟨List.nodup_nil, fun a ha => by cases ha⟩⟩, hk, rfl, fun y hy => ?_⟩
  · wrow_post
  · rw [show ({ s₁ with heap := h', toks := tk } : Shared).gens = s₁.gens from rfl, hg] at hy
    simp at hy
end Mine
end

section
open PySem PySem.W PySem.W.X PyProof.Rows PySem.Calls
namespace Mine
variable [Inhabited Base]
theorem oldK_of {w : World} {h h' : Heap} (e : theBase = h) (C : Cx w h) (h0 : h.get? 111 = some (tabO [])) (g : Go h h') : OldK h h' := by
  have t : Tb h := ⟨[], h0, (fun e he => by cases he), fun b o _ _ q => by rw [e] at q; exact q⟩
  obtain ⟨ts, h1, _, b1⟩ := g.tb t
  have ct : isCodeTable h 111 := ⟨115, _, _, C.k 115 _ rfl, rfl, rfl, rfl⟩
  have key : ∀ b o, h.get? b = some o → h'.get? b = some o ∨ b = 111 := fun b o q => by
    cases z : isTab o with
    | false => exact .inl (g.kb b o z q)
    | true =>
      by_cases n : b = 111
      · exact .inr n
      · exact .inl (b1 b o z n (by rw [e]; exact q))
  refine ⟨fun b o q => ?_, fun b o q => ?_⟩
  · rcases key b o q with z | rfl
    · exact .inl z
    · rw [h0] at q
      cases q
      refine .inr (.inl ⟨ct, rfl, #[], (flatT ts).toArray, rfl, ?_⟩)
      rw [h1]
      simp [tabO]
  · rcases key b o q with z | rfl
    · exact ⟨o, z⟩
    · exact ⟨_, h1⟩
end Mine
namespace Mine
/-- what the walk of the law is to show -/
def LawB : Prop := ∀ [Inhabited Base] (w : World) (s : Shared) (l : Addr) (vs : List Value) (ns : List Int), CxB w s.heap → Tb s.heap → s.heap.IsList l vs.toArray → IntsAre vs ns → ns.length ≤ 63 →
  wpN (model PySem.Challenge.rw_qh0048_01.row.prog w) callerA (call (.ref 171) [.ref l]) (fun v s' => ∃ h' tk, v = .bool true ∧ s' = { s with heap := h', toks := tk } ∧ Go s.heap h') (fun _ _ => False) s
theorem law_of (H : LawB) : LawOk := by
  intro w s l vs ns C h0 hl hI h63
  letI : Inhabited Base := ⟨⟨s.heap⟩⟩
  refine wpN_mono (H w s l vs ns C.toB ⟨[], h0, (fun e he => by cases he), fun b o _ _ q => q⟩ hl hI h63) ?_ (fun _ _ q => q)
  rintro _ _ ⟨h', tk, rfl, rfl, g⟩
  exact ⟨h', tk, rfl, rfl, oldK_of (w := w) rfl C h0 g⟩
end Mine
end

section
open PySem PySem.W PySem.W.X PyProof.Rows PySem.Calls
namespace Mine
theorem norm_st {α : Type} {M : Model} {A : Around} {t : Sem α} {Q : α → Shared → Prop} {E : Value → Shared → Prop} {h : Heap} {g : Array GenState} {d : Drawn} {o : OsState} {tk₀ : Nat} (H : ∀ tk, wpN M A t Q E ⟨h, g, d, tk, o⟩) : wpN M A t Q E ⟨h, g, d, tk₀, o⟩ := H _
theorem law_walk : LawB := by
  intro _ w s l vs ns X tb hl hI h63
  have hvl : vs.length = ns.length := hI.length
  refine wpN_call (enterN (Nat.lt_of_le_of_lt callerOk.depth (Nat.le_of_ble_eq_true rfl)) (X.cx.k 171 _ rfl) ⟨X.cx.lim, codeRec_of X.cx.k (by kernel_rfl)⟩ ⟨rfl, rfl, rfl⟩ (binds := [(Str.ofString "script", .ref l)]) (by kernel_rfl) ?hk ?_)
  case hk =>
    intro x hx
    rw [List.mem_singleton.mp hx]; exact .inl rfl
  rintro _ rfl h₁ tk k₁ ns₁ cl
  replace k₁ : Keep s.heap h₁ := k₁
  have c1 : h₁.IsCell (s.heap.objs.size + 1) none := cl (Str.ofString "signs") _ rfl
  clear cl
  have fr : ∀ k, s.heap.get? (s.heap.objs.size + k) = none := fun k => by
    cases e : s.heap.get? (s.heap.objs.size + k) with
    | none => rfl
    | some o => exact absurd (Heap.lt_size e) (Nat.not_lt.mpr (Nat.le_add_right _ _))
  have nn : ∀ i j : Nat, i ≠ j → s.heap.objs.size + i ≠ s.heap.objs.size + j := fun i j n z => n (Nat.add_left_cancel z)
  have n0 : ∀ (k : Nat) {b : Addr} {o : Obj}, s.heap.get? b = some o → b ≠ s.heap.objs.size + k := fun k {b o} e z => by rw [z, fr k] at e; cases e
  generalize hL : s.heap.objs.size = L at *
  have X₁ : CxB w h₁ := X.keeps k₁.toB
  have hA : OkA callerA 301 4 := callerOk
  have hl₁ : h₁.IsList l vs.toArray := let ⟨o, e, q⟩ := hl; ⟨o, k₁ _ _ e, q⟩
  replace ns₁ : h₁.Ns L (fun y => if y = Str.ofString "script" then some (.ref l) else none) := ns₁
  -- the samples
  refine wpN_execs_cons (wpN_Assign_Name (.of ?_))
  refine wpAny_BinOp (list_rule ?_)
  refine spliced_more (wpAny_Constant_int ?_)
  refine spliced_more (wpAny_UnaryOp (wpAny_Constant_int (PySem.P.neg_int ?_)))
  refine norm_sa (h := h₁) (g := s.gens) (d := s.drawn) (o := s.os) ?_
  intro tkn
  refine spliced_more (wpAny_Constant_int ?_)
  refine spliced_more (wpAny_UnaryOp (wpAny_Constant_int (PySem.P.neg_int ?_)))
  refine spliced_none ⟨Nat.le_of_ble_eq_true rfl, fun D₁ g₁ kD₁ fD₁ oD₁ => ?_⟩
  replace kD₁ : Keep h₁ g₁ := kD₁
  clear fD₁
  refine norm_sa (h := g₁) (g := s.gens) (d := s.drawn) (o := s.os) ?_
  intro tkn
  refine comp_rule (cl := []) (fun _ => true) (fun v y => ∃ n t t', v = .int n t ∧ y = .int ((n + 8388608).fmod 16777216 - 8388608) t') (by kernel_rfl) (by decide) rfl (by decide) rfl ?_ (fun _ => rfl)
  refine slice_rule (Mine.nm_loc (ns₁.keeps kD₁) (v := .ref l) rfl ?_)
  refine wpAny_pure ?_
  refine evalPart_some_step (wpAny_Constant_int ?_)
  refine ⟨l, vs.toArray, _, _, rfl, (let ⟨o, e, q⟩ := hl₁; ⟨o, kD₁ _ _ e, q⟩), by rw [sizeLine_eq]; simp; lia, .none, .int _ _, ?_⟩
  intro D₂ g₂ k₂ f₂ o₂
  replace k₂ : Keep g₁ g₂ := k₂
  clear f₂
  have hI6 : IntsAre (slicePick vs.toArray none (some 6) none).toList (ns.take 6) := slice_ints_uptoW hI (by decide)
  refine ⟨(slicePick vs.toArray none (some 6) none).size, fun j v => (slicePick vs.toArray none (some 6) none)[j]? = some v, ?hn, Mine.src_list (A := callerA.deeper _) hA.handled o₂.isList, ?t1, ?e1, ?f1⟩
  case hn =>
    have := hI6.length
    rw [Array.length_toList, List.length_take] at this
    rw [this, sizeLine_eq]; lia
  case t1 =>
    intro C i v s₃ m₃ E' hC hj hn₃ hm₃ k₃
    exact wpAny_tests_nil ⟨rfl, _, _, rfl, fun _ _ e => e⟩
  case e1 =>
    intro C i v s₃ m₃ E' hC hj _ hn₃ hm₃ k₃
    obtain ⟨n, t, rfl⟩ := ints_mem hI6 (List.mem_of_getElem? (by rw [Array.getElem?_toList]; exact hj))
    refine wpAny_BinOp (wpAny_BinOp (wpAny_BinOp (Mine.nm_loc hn₃ hm₃ (wpAny_Constant_int (PyProof.Rows.add_int (wpAny_Constant_int (PyProof.Rows.mod_int (by decide) (wpAny_Constant_int (PyProof.Rows.sub_int ?_)))))))))
    exact ⟨⟨_, _, _, rfl, rfl⟩, _, _, rfl, fun _ _ e => e⟩
  intro D₃ g₃ tk₃ ys₃ vs₃ f₃ o₃ l₃ P₃ F₃ k₃
  replace k₃ : Keep g₂ g₃ := k₃
  clear f₃
  have ev : vs₃ = (slicePick vs.toArray none (some 6) none).toList := same_list l₃ P₃
  rw [filt_true, ev] at F₃
  clear P₃ l₃ ev
  refine norm_sa (h := g₃) (g := s.gens) (d := s.drawn) (o := s.os) ?_
  intro tkn
  refine add_rule (oD₁.at fun o e => k₃ _ _ (k₂ _ _ e)) o₃ ?hz fun S h₂ k₄ fS oS => ?_
  case hz =>
    have e4 : ys₃.toList.length + 1 + 1 + 1 + 1 = (smp ns).length := (smp_ints hI6 F₃ (t1 := 0) (t2 := 0) (t3 := 0) (t4 := 0)).length
    have l2 := (smp_len ns).2
    rw [Array.length_toList] at e4
    show 4 + ys₃.size ≤ _
    rw [sizeLine_eq]; lia
  replace k₄ : Keep g₃ h₂ := k₄
  have kk₂ : Keep h₁ h₂ := kD₁.trans (k₂.trans (k₃.trans k₄))
  refine (fun (H : ∀ sm : Array Value, h₂.PlainList S sm → IntsAre sm.toList (smp ns) → _) => H _ oS (by rw [Array.toList_append]; exact smp_ints hI6 F₃)) ?_
  clear oS
  intro sm oS hS
  have nSL : S ≠ L := by
    obtain ⟨o, _, _, e, _⟩ := ns₁
    have fS' : g₃.get? S = none := fS
    exact fun z => by rw [z, k₃ _ _ (k₂ _ _ (kD₁ _ _ e))] at fS'; cases fS'
  have nS1 : S ≠ L + 1 := by
    obtain ⟨o, e, _⟩ := c1
    have fS' : g₃.get? S = none := fS
    exact fun z => by rw [z, k₃ _ _ (k₂ _ _ (kD₁ _ _ e))] at fS'; cases fS'
  clear fS k₄ k₃ k₂ kD₁ oD₁ o₂ o₃ F₃ hI6
  refine wpAny_storeName_local (by kernel_rfl) (ns₁.keeps kk₂) (fun h₃ ns₃ hs₃ => ?_) rfl
  replace hs₃ : Heap.SameBut L h₂ h₃ := hs₃
  replace ns₃ : h₃.Ns L (fun y => if y = Str.ofString "samples" then some (.ref S) else if y = Str.ofString "script" then some (.ref l) else none) := ns₃
  have k₃ : Keep s.heap h₃ := fun b o e => hs₃.extBut b o (n0 0 e) (kk₂ _ _ (k₁ _ _ e))
  have oS₃ : h₃.PlainList S sm := oS.at fun o e => hs₃.extBut _ _ nSL e
  have c₃ : h₃.IsCell (L + 1) none := let ⟨o, e, q⟩ := c1; ⟨o, hs₃.extBut _ _ (nn 1 0 (by decide)) (kk₂ _ _ e), q⟩
  clear hs₃ kk₂ oS ns₁
  refine norm_st (h := h₃) (g := s.gens) (d := s.drawn) (o := s.os) ?_
  clear g₁ g₂ g₃ ys₃ vs₃ tk₃
  intro tk₃
  have X₃ : CxB w h₃ := X.keeps k₃.toB
  have hN := smp_len ns
  have hin := smp_in ns
  have hlow : (lows (smp ns)).length ≤ 30 := by rw [lows_len]; lia
  have hsz : sm.size = (smp ns).length := by have := hS.length; rwa [Array.length_toList] at this
  -- the signs
  refine wpN_execs_cons (wpN_Assign_Name (wpN_Call_NameR (Mine.nm_glob X₃.cx (v := .ref 101) (by kernel_rfl) (withN_K (a := 101) (by kernel_rfl) ?_))))
  refine splN_more (wpN_Call_NameR (Mine.nm_glob X₃.cx (v := .ref 28) (by kernel_rfl) (withN_K (a := 28) (by kernel_rfl) ?_)))
  refine splN_more (.of ?_)
  refine PyProof.Rows.MethodCall_ (Constant_bytes (join_meth ?_))
  refine PyProof.Rows.callWith_method1 ?_
  refine spliced_more (comp_rule (cl := []) (fun _ => true) (fun v y => ∃ n t t', v = .int n t ∧ y = .bytes (low n).toArray t') (by kernel_rfl) (by decide) rfl (by decide) rfl ?_ (fun _ => rfl))
  refine Mine.nm_loc ns₃ (v := .ref S) rfl ?_
  refine ⟨sm.size, fun j v => sm[j]? = some v, by rw [sizeLine_eq]; lia, Mine.src_list (A := callerA.deeper _) hA.handled oS₃.isList, ?t2, ?e2, ?f2⟩
  case t2 =>
    intro C i v s₄ m₄ E' hC hj hn₄ hm₄ k₄
    exact wpAny_tests_nil ⟨rfl, _, _, rfl, fun _ _ e => e⟩
  case e2 =>
    intro C i v s₄ m₄ E' hC hj _ hn₄ hm₄ k₄
    obtain ⟨n, t, rfl⟩ := ints_mem hS (List.mem_of_getElem? (by rw [Array.getElem?_toList]; exact hj))
    have X₄ : Cx w s₄.heap := X₃.cx.keeps k₄
    refine call_fn (a := 132) X₄ (by kernel_rfl) (by kernel_rfl) ?_ (by kernel_rfl) (by kernel_rfl) (by kernel_rfl) (by kernel_rfl)
    refine spliced_more (Mine.nm_loc hn₄ hm₄ ?_)
    refine spliced_none ⟨X₄.k, ?_⟩
    refine low_spec X₄ (hA.deeper.mono (Nat.le_of_ble_eq_true rfl) (Nat.le_of_ble_eq_true rfl)) fun h' tk' t' k' => ?_
    exact ⟨⟨_, _, _, rfl, rfl⟩, _, _, rfl, k'⟩
  intro D g₁ tk₄ ys vs₄ f₄ o₄ l₄ P₄ F₄ k₄
  replace k₄ : Keep h₃ g₁ := k₄
  have ev : vs₄ = sm.toList := same_list l₄ P₄
  rw [filt_true, ev] at F₄
  have hJ := pair_low hS F₄
  clear P₄ l₄ ev F₄ f₄
  have X₄ : CxB w g₁ := X₃.keeps k₄.toB
  refine norm_sa (h := g₁) (g := s.gens) (d := s.drawn) (o := s.os) ?_
  intro tkn
  refine spliced_none (join_low o₄ hJ (by lia) (by lia) fun tk₅ t₅ => ?_)
  refine norm_st (h := g₁) (g := s.gens) (d := s.drawn) (o := s.os) ?_
  intro tk₆
  refine splN_more (.of (wpAny_Constant_int ?_))
  refine splN_none ⟨X₄.cx.k, ?_⟩
  refine byteswap_spec (n := (smp ns).length) X₄.cx (hA.deeper.mono (Nat.le_of_ble_eq_true rfl) (Nat.le_of_ble_eq_true rfl)) (lows_len _) (by lia) fun h₅ tk₇ t₆ k₅ => ?_
  replace k₅ : Keep g₁ h₅ := k₅
  have X₅ : CxB w h₅ := X₄.keeps k₅.toB
  refine norm_st (h := h₅) (g := s.gens) (d := s.drawn) (o := s.os) ?_
  intro tk₈
  refine splN_none ⟨X₅.cx.k, .of ?_⟩
  have ec := enc_eq (smp ns)
  have hsw : (swap3 (lows (smp ns))).length ≤ 100 := by rw [swap3_lows, rlows_len]; lia
  refine enc_spec (s := ⟨h₅, _, _, _, _⟩) X₅.cx (hA.deeper.mono (Nat.le_of_ble_eq_true rfl) (Nat.le_of_ble_eq_true rfl)) hsw ec.1 fun h₆ tk₉ t₇ k₆ => ?_
  replace k₆ : Keep h₅ h₆ := k₆
  rw [ec.2]
  have kk₆ : Keep h₃ h₆ := k₄.trans (k₅.trans k₆)
  have c₆ : h₆.IsCell (L + 1) none := c₃.keeps kk₆
  have ns₆ := ns₃.keeps kk₆
  have oS₆ : h₆.PlainList S sm := oS₃.at fun o e => kk₆ _ _ e
  refine wpAny_storeName_cell rfl (by kernel_rfl) rfl c₆ fun h₇ c₇ hs₇ => ?_
  replace hs₇ : Heap.SameBut (L + 1) h₆ h₇ := hs₇
  have ns₇ := ns₆.sameBut hs₇ (nn 0 1 (by decide))
  have oS₇ : h₇.PlainList S sm := oS₆.at fun o e => hs₇.extBut _ _ nS1 e
  have k₇ : Keep s.heap h₇ := fun b o e => hs₇.extBut b o (n0 1 e) (kk₆ _ _ (k₃ _ _ e))
  have X₇ : CxB w h₇ := X.keeps k₇.toB
  clear hs₇ c₆ ns₆ oS₆ kk₆ k₆ k₅ k₄ hJ o₄ X₄ X₅ ec hsw
  refine norm_st (h := h₇) (g := s.gens) (d := s.drawn) (o := s.os) ?_
  clear tk₃ tk₄ tk₅ tk₆ tk₇ tk₈ tk₉
  intro tk₇
  -- the pieces
  have hpl : (pcsL (smp ns)).length ≤ 40 := by rw [pcsL_len]; lia
  refine wpN_execs_cons (.of ?_)
  refine asg_comp (cl := [(Str.ofString "signs", L + 1)]) (fun _ => true) (fun v y => ∃ (j : Nat) (t t' : Tok), v = .int (j : Int) t ∧ j < (smp ns).length ∧ y = .bytes (pc ((smp ns).getD j 0)) t') (by kernel_rfl) (by kernel_rfl) (by decide) rfl (by decide) rfl (by kernel_rfl) rfl ?_ (fun _ => rfl)
  refine wpAny_Call_NameR (Mine.nm_bi X₇.cx (v := .type "range") (by kernel_rfl) (by kernel_rfl) (by decide) ?_)
  refine PyProof.Rows.callWith_type1 ?_
  refine spliced_more (wpAny_Call_NameR (Mine.nm_bi X₇.cx (v := .builtin "len") (by kernel_rfl) (by kernel_rfl) (by decide) ?_))
  refine PyProof.Rows.callWith_builtin1 ?_
  refine spliced_more (Mine.nm_loc ns₇ (v := .ref S) rfl ?_)
  refine spliced_none ?_
  refine len_list oS₇.isList (by lia) ?_
  refine norm_sa (h := h₇) (g := s.gens) (d := s.drawn) (o := s.os) ?_
  intro tkn
  refine spliced_none ?_
  rw [hsz]
  refine range1_rule fun R h₈ tk₈ ta tb' tc k₈ fR hR => ?_
  replace k₈ : Keep h₇ h₈ := k₈
  have hsize : Builtin.Range.rangeSize 0 (((smp ns).length : Nat) : Int) 1 = ((smp ns).length : Nat) := by rw [rangeSize_one]; split <;> lia
  refine ⟨(smp ns).length, fun i v => i < (smp ns).length ∧ ∃ t, v = .int (0 + (i : Int) * 1) t, _, by rw [sizeLine_eq]; lia, src_mono (Mine.src_range (A := callerA.deeper _) hA.handled hR (small_one (by decide) (by decide) (by lia) (by lia)) hsize) (fun i v hi hv => ⟨hi, hv⟩), ns₇.keeps k₈, ?t3, ?e3, ?f3⟩
  case t3 =>
    intro C i v s₄ m₄ E' hC hj hn₄ hm₄ k₄
    exact wpAny_tests_nil ⟨rfl, _, _, rfl, fun _ _ e => e⟩
  case e3 =>
    rintro C i v s₄ m₄ E' hC ⟨hj, t, rfl⟩ _ hn₄ hm₄ k₄
    rw [show (0 : Int) + (i : Int) * 1 = ((i : Nat) : Int) by lia] at hm₄ ⊢
    have c₄ := (c₇.keeps k₈).keeps k₄
    refine bslice_rule (Mine.nm_cell (c := L + 1) rfl c₄ ?_)
    refine evalPart_some_step (wpAny_BinOp (wpAny_Constant_int ?_))
    refine Mine.nm_loc hn₄ hm₄ ?_
    refine mul3 (c := ((4 * i : Nat) : Int)) (four_ok _) (by lia) fun tk1 u1 => ?_
    refine evalPart_some_step (wpAny_BinOp (wpAny_BinOp (wpAny_Constant_int ?_)))
    refine Mine.nm_loc hn₄ hm₄ ?_
    refine mul3 (c := ((4 * i : Nat) : Int)) (four_ok _) (by lia) fun tk2 u2 => ?_
    refine wpAny_Constant_int ?_
    refine add3 (c := ((4 * i + 4 : Nat) : Int)) (by lia) fun tk3 u3 => ?_
    refine ⟨_, _, _, _, rfl, by simp; lia, .int _ _, .int _ _, fun h' tk' t' k' => ?_⟩
    rcases cut_eq (pcsL (smp ns)) i with ec | ec
    · rw [ec, pcs_cut _ _ hj]
      exact ⟨⟨i, _, t', rfl, hj, rfl⟩, _, _, rfl, k'⟩
    · rw [pcsL_len] at ec; lia
  intro D' h₉ tk₉ ps vs₅ fP oP l₅ P₅ F₅ ns₉ ke
  replace ns₉ : h₉.Ns L (fun z => if z = Str.ofString "pieces" then some (.ref D') else if z = Str.ofString "samples" then some (.ref S) else if z = Str.ofString "script" then some (.ref l) else none) := ns₉
  replace ke : ∀ b o, b ≠ L → h₈.get? b = some o → h₉.get? b = some o := ke
  have hPc : IsPcs ps.toList (smp ns) := by
    rw [filt_true] at F₅
    exact pcs_of l₅ P₅ F₅
  have k₉ : Keep s.heap h₉ := fun b o e => ke b o (n0 0 e) (k₈ _ _ (k₇ _ _ e))
  have c₉ : h₉.IsCell (L + 1) (some (.bytes (pcsL (smp ns)).toArray t₇)) := let ⟨o, e, q⟩ := c₇; ⟨o, ke _ _ (nn 1 0 (by decide)) (k₈ _ _ e), q⟩
  have oS₉ : h₉.PlainList S sm := oS₇.at fun o e => ke _ _ nSL (k₈ _ _ e)
  have X₉ : CxB w h₉ := X.keeps k₉.toB
  clear ke F₅ P₅ l₅ fR hR k₈ c₇ ns₇ oS₇ fP
  refine norm_st (h := h₉) (g := s.gens) (d := s.drawn) (o := s.os) ?_
  clear tk₇ tk₈ tk₉
  intro tk₉
  -- the row at rest
  have ex2 : ((sm.size : Int) - 1) = (((smp ns).length - 1 : Nat) : Int) := by rw [hsz]; lia
  refine wpN_execs_cons (wpN_Assign_Name (.of ?_))
  refine call_fn (a := 125) X₉.cx (by kernel_rfl) (by kernel_rfl) ?_ (by kernel_rfl) (by kernel_rfl) (by kernel_rfl) (by kernel_rfl)
  refine spliced_more (Mine.nm_glob X₉.cx (v := .ref 156) (by kernel_rfl) ?_)
  refine spliced_more (wpAny_Call_NameR (Mine.nm_bi X₉.cx (v := .type "range") (by kernel_rfl) (by kernel_rfl) (by decide) ?_))
  refine PyProof.Rows.callWith_type1 ?_
  refine spliced_more (wpAny_BinOp (wpAny_BinOp (wpAny_Call_NameR (Mine.nm_bi X₉.cx (v := .builtin "len") (by kernel_rfl) (by kernel_rfl) (by decide) ?_))))
  refine PyProof.Rows.callWith_builtin1 ?_
  refine spliced_more (Mine.nm_loc ns₉ (v := .ref S) rfl ?_)
  refine spliced_none ?_
  refine len_list oS₉.isList (by lia) ?_
  refine norm_sa (h := h₉) (g := s.gens) (d := s.drawn) (o := s.os) ?_
  intro tkn
  refine wpAny_Constant_int ?_
  refine sub3 ex2 fun tk1 u1 => ?_
  refine norm_sa (h := h₉) (g := s.gens) (d := s.drawn) (o := s.os) ?_
  intro tkn
  refine wpAny_Constant_int ?_
  refine fdiv3 (c := ((((smp ns).length - 1) / 2 : Nat) : Int)) (by decide) (by decide) (by rw [Int.fdiv_eq_ediv_of_nonneg _ (by lia)]; lia) fun tk2 u2 => ?_
  refine norm_sa (h := h₉) (g := s.gens) (d := s.drawn) (o := s.os) ?_
  intro tkn
  refine spliced_none ?_
  refine range1_rule fun R₂ ha tka va vb vc ka fR₂ hR₂ => ?_
  replace ka : Keep h₉ ha := ka
  have kA : Keep s.heap ha := k₉.trans ka
  have Xa : CxB w ha := X.keeps kA.toB
  refine norm_sa (h := ha) (g := s.gens) (d := s.drawn) (o := s.os) ?_
  intro tkn
  refine spliced_more (Mine.nm_loc (ns₉.keeps ka) (v := .ref D') rfl ?_)
  refine spliced_none ⟨Xa.cx.k, ?_⟩
  refine red_spec (s := ⟨ha, _, _, _, _⟩) (k := ((smp ns).length - 1) / 2) Xa (tb.mono kA.toC) (hA.deeper.mono (Nat.le_of_ble_eq_true rfl) (Nat.le_of_ble_eq_true rfl)) (oP.at fun o e => ka _ _ e) hPc hin (by lia) (by lia) hR₂ (by lia) fun D₄ hb tkb zs gob oD₄ hP₄ => ?_
  replace gob : Go ha hb := gob
  have nsb := ns_goB (ns₉.keeps ka) gob.kb
  refine wpAny_storeName_local (by kernel_rfl) nsb (fun hc nsc hsc => ?_) rfl
  replace hsc : Heap.SameBut L hb hc := hsc
  replace nsc : hc.Ns L (fun z => if z = Str.ofString "rest" then some (.ref D₄) else if z = Str.ofString "pieces" then some (.ref D') else if z = Str.ofString "samples" then some (.ref S) else if z = Str.ofString "script" then some (.ref l) else none) := nsc
  have go1 : Go s.heap hc := ((Keep.go kA).trans gob).iter (ws := [L]) (fun a q => by rw [List.mem_singleton.mp q]; exact fr 0) (fun a q => by rw [List.mem_singleton.mp q]; exact Pl.ns nsb) (fun b o q e => hsc.extBut b o (fun z => q (List.mem_singleton.mpr z)) e)
  have Xc : CxB w hc := X.keeps go1.kb
  have nDL : D₄ ≠ L := by
    obtain ⟨n, e⟩ := oD₄
    obtain ⟨o, _, _, e2, d, _⟩ := nsb
    exact fun z => by rw [z, e2] at e; cases e; cases d
  have oDc : hc.PlainList D₄ zs := oD₄.at fun o e => hsc.extBut _ _ nDL e
  have oSc : hc.PlainList S sm := let ⟨n, e⟩ := oS₉; ⟨n, hsc.extBut _ _ nSL (gob.kb _ _ rfl (ka _ _ e))⟩
  clear hsc nsb gob oD₄ Xa kA ka hR₂ fR₂ oS₉ X₉ c₉ ns₉ oP k₉ hPc
  refine norm_st (h := hc) (g := s.gens) (d := s.drawn) (o := s.os) ?_
  clear tk₉ tka tkb tk1 tk2
  intro tkc
  generalize hxs : stepN (((smp ns).length - 1) / 2) (smp ns) = rs at *
  have hrl : rs.length = (smp ns).length := by rw [← hxs]; exact stepN_len (by lia) _
  have dq := dec_eq rs
  -- what is returned
  refine wpN_execs_cons (wpN_Return_some (wpN_Compare1 (wpN_Call_NameR (Mine.nm_glob Xc.cx (v := .ref 28) (by kernel_rfl) (withN_K (a := 28) (by kernel_rfl) ?_)))))
  refine splN_more (.of ?_)
  refine call_fn (a := 109) Xc.cx (by kernel_rfl) (by kernel_rfl) ?_ (by kernel_rfl) (by kernel_rfl) (by kernel_rfl) (by kernel_rfl)
  refine spliced_more (PyProof.Rows.MethodCall_ (Constant_bytes (join_meth ?_)))
  refine PyProof.Rows.callWith_method1 ?_
  refine spliced_more (Mine.nm_loc nsc (v := .ref D₄) rfl ?_)
  refine spliced_none (join_pcs oDc hP₄ (by lia) (by lia) fun tk1 u1 => ?_)
  refine norm_sa (h := hc) (g := s.gens) (d := s.drawn) (o := s.os) ?_
  intro tkn
  refine spliced_none ⟨Xc.cx.k, ?_⟩
  refine dec_spec (s := ⟨hc, _, _, _, _⟩) Xc.cx (hA.deeper.mono (Nat.le_of_ble_eq_true rfl) (Nat.le_of_ble_eq_true rfl)) (by rw [figL_len]; lia) (figL_lt _) dq.1 fun hd tk2 u2 kd => ?_
  replace kd : Keep hc hd := kd
  rw [dq.2]
  have Xd : CxB w hd := Xc.keeps kd.toB
  refine norm_st (h := hd) (g := s.gens) (d := s.drawn) (o := s.os) ?_
  intro tk3
  refine splN_more (.of (wpAny_Constant_int ?_))
  refine splN_none ⟨Xd.cx.k, ?_⟩
  refine byteswap_spec (n := (smp ns).length) Xd.cx (hA.deeper.mono (Nat.le_of_ble_eq_true rfl) (Nat.le_of_ble_eq_true rfl)) (by rw [rlows_len, hrl]) (by lia) fun he tk4 u4 ke => ?_
  replace ke : Keep hd he := ke
  rw [swap3_rlows]
  have kce : Keep hc he := kd.trans ke
  have Xe : CxB w he := Xc.keeps kce.toB
  have nse := nsc.keeps kce
  have oSe : he.PlainList S sm := oSc.at fun o e => kce _ _ e
  clear kd ke dq oDc nsc oSc
  refine norm_sa (h := he) (g := s.gens) (d := s.drawn) (o := s.os) ?_
  clear tkc tk1 tk2 tk3 tk4
  intro tke
  refine PyProof.Rows.MethodCall_ (Constant_bytes (join_meth ?_))
  refine PyProof.Rows.callWith_method1 ?_
  refine spliced_more (comp_rule (cl := []) (fun _ => true) (fun v y => ∃ n t t', v = .int n t ∧ y = .bytes (low n).toArray t') (by kernel_rfl) (by decide) rfl (by decide) rfl ?_ (fun _ => rfl))
  refine call_fn (a := 166) Xe.cx (by kernel_rfl) (by kernel_rfl) ?_ (by kernel_rfl) (by kernel_rfl) (by kernel_rfl) (by kernel_rfl)
  refine spliced_more (Mine.nm_loc nse (v := .ref S) rfl ?_)
  refine spliced_none ⟨Xe.cx.k, ?_⟩
  refine rest_spec (s := ⟨he, _, _, _, _⟩) (vs := sm.toList) Xe.cx (hA.deeper.mono (Nat.le_of_ble_eq_true rfl) (Nat.le_of_ble_eq_true rfl)) oSe.isList hS (by lia) (by lia) fun D₅ hf tk5 ds kf fD₅ oD₅ hds hdue => ?_
  replace kf : Keep he hf := kf
  have hI5 : IntsAre ds.toList rs := by
    rw [← hxs]
    exact due_ints (by lia) hds hdue
  have Xf : CxB w hf := Xe.keeps kf.toB
  refine ⟨ds.size, fun j v => ds[j]? = some v, by rw [sizeLine_eq, hds]; lia, Mine.src_list (A := callerA.deeper _) hA.handled oD₅.isList, ?t5, ?e5, ?f5⟩
  case t5 =>
    intro C i v s₄ m₄ E' hC hj hn₄ hm₄ k₄
    exact wpAny_tests_nil ⟨rfl, _, _, rfl, fun _ _ e => e⟩
  case e5 =>
    intro C i v s₄ m₄ E' hC hj _ hn₄ hm₄ k₄
    obtain ⟨n, t, rfl⟩ := ints_mem hI5 (List.mem_of_getElem? (by rw [Array.getElem?_toList]; exact hj))
    have X₄ : Cx w s₄.heap := Xf.cx.keeps k₄
    refine call_fn (a := 132) X₄ (by kernel_rfl) (by kernel_rfl) ?_ (by kernel_rfl) (by kernel_rfl) (by kernel_rfl) (by kernel_rfl)
    refine spliced_more (Mine.nm_loc hn₄ hm₄ ?_)
    refine spliced_none ⟨X₄.k, ?_⟩
    refine low_spec X₄ (hA.deeper.mono (Nat.le_of_ble_eq_true rfl) (Nat.le_of_ble_eq_true rfl)) fun h' tk' t' k' => ?_
    exact ⟨⟨_, _, _, rfl, rfl⟩, _, _, rfl, k'⟩
  intro D₆ hg tk6 ys6 vs6 f6 o6 l6 P6 F6 k6
  replace k6 : Keep hf hg := k6
  have ev6 : vs6 = ds.toList := same_list l6 P6
  rw [filt_true, ev6] at F6
  refine norm_sa (h := hg) (g := s.gens) (d := s.drawn) (o := s.os) ?_
  intro tkn
  refine spliced_none (join_low o6 (pair_low hI5 F6) (by lia) (by lia) fun tk7 u7 => ?_)
  refine PySem.W.eq_bytes ?_
  exact ⟨hg, _, congrArg Value.bool (beq_self_eq_true _), rfl, go1.trans (Keep.go (kce.trans (kf.trans k6)))⟩
end Mine
end

theorem PySem.Challenge.cw_qh0048_01_holds : PySem.Challenge.rw_qh0048_01.Holds := by
  exact Mine.glue (Mine.law_of Mine.law_walk)
