import PyProof.Rows.All
import Wide.All
import OpenK.AllK
import Wide.FinOn
import Lean
import PySem.Challenge.RW_xp0024_01
set_option Elab.async false
section
open PySem PySem.W PyProof.Rows
set_option maxRecDepth 100000
set_option maxHeartbeats 8000000
namespace Mine
/-- the context in which the claim calls: nothing below -/
abbrev Ctx0 : Ctx := ⟨.builtin "claim.caller" {}, none, none, [], none⟩

/-- what the head asks: the call, in the claim's own context alone -/
abbrev WalkP (q : Program) (loose : List Str) (XP : (Str → Option Value) → Heap → Prop) (YP : World → Heap → Prop) (r : RowW) (d : DefRec) (kwd : List (Str × Expr)) : Prop :=
  ∀ (w : World) (s₀ s₁ : Shared) (mg mb : Str → Option Value), Ground q loose r.records XP w s₀ mg mb s₁.heap → YP w s₁.heap → ∀ (a : Addr) (o : Obj) (pm cd doc dV kV : Value), s₁.heap.get? a = some o →
    o.data = .func { Calls.docDef d.name d.params d.body d.scope pm cd doc with defaults := dV, kwdefaults := kV } → s₁.heap.CodeRec cd d.name → Dflts mg s₁.heap d.params kwd dV kV → mg d.name = some (.ref a) → s₁.gens = #[] →
    ∀ (args : List WData) (vals : List Value) (as : List Addr), r.claim.pre args = true → WData.layableAll args = true → ReadsAllW r.records (classAt s₀.heap) s₁.heap vals args as → WellAll w.params s₁.heap vals args → (∀ a ∈ as, (a == sysModules) = false) →
      ∀ p, Sem.wp (model r.prog w) Ctx0 (PySem.call (.ref a) vals) (fun v _ s' => GoodWG r.claim (classAt s₀.heap) (ExcName.means s₀.heap) args s₁ (.ok (.ret v)) s')
        (fun e _ s' => GoodWG r.claim (classAt s₀.heap) (ExcName.means s₀.heap) args s₁ (.error e) s') p s₁

theorem stub_wp {prog : Program} {w : World} {name : Str} {vs : List Value} {s : Shared} {mg : Str → Option Value} {f : Value} {Q : Fin → Pos → Shared → Prop} {E : Value → Pos → Shared → Prop} {p : Pos}
    (hg : s.heap.Ns mainGlobals mg) (hf : mg name = some f) (h : Sem.wp (model prog w) Ctx0 (PySem.call f vs) (fun v p s' => Q (.done (.ret v)) p s') E p s) :
    Sem.wp (model prog w) Ctx0 (do match ← nsGet mainNs name with
      | some f => do ret (← PySem.call f vs)
      | none => unsupported "claim.caller:no-such-global") Q E p s := by
  rw [Sem.wp_bind']
  refine (Sem.wp_nsGet _ _ _ _ _ hg name _).mpr ?_
  rw [hf]
  show Sem.wp _ _ (PySem.call f vs >>= fun v => ret v) _ _ _ _
  rw [Sem.wp_bind']
  exact h

/-- what the head's own look takes: the top of the empty text; the row's own top is shown apart (premise 'call') -/
def emptyOf (p : Program) : Program := { p with main := { p.main with body := [] } }
def LeftDummy (p : Program) (N : Nat) : Prop := LeftO (emptyOf p) (emptyOf p) [] (fun _ => true) (fun _ => ()) (fun _ => ()) N
abbrev PartL {a b c d : Prop} (_ : a ∧ b ∧ c → d) : Prop := b
abbrev PartR {a b c d : Prop} (_ : a ∧ b ∧ c → d) : Prop := c
abbrev PartP {P : World → Prop} {a c d : Prop} (_ : a ∧ (∀ w, P w) ∧ c → d) : World → Prop := P
theorem PySem.W.holds_open {r : OpenRow} {q : Program} {loose : List Str} {Xt : Shared → Bool} {XP : (Str → Option Value) → Heap → Prop} {α : Type} {Yf : Shared → α} {Ya : World → α} {YP : World → Heap → Prop} {d : DefRec} {kwd : List (Str × Expr)} {N : Nat}
    (left₀ : LeftDummy r.prog N) (hY : ∀ w s, Yf s = Ya w → YP w s.heap) (hYk : ∀ w h h', YP w h → (∀ b o, h.get? b = some o → h'.get? b = some o) → YP w h')
    (hX : ∀ s, Xt s = true → XP (s.heap.nsMap mainGlobals) s.heap) (hXk : ∀ mg h h', XP mg h → (∀ b o, h.get? b = some o → h'.get? b = some o) → XP mg h')
    (hdef : defOf q r.name = some (d, kwd)) (hp : r.prog.theDef r.name = some (d.params, d.body, d.scope)) (hk : kwWritten? d.params.kwonlyargs d.params.kw_defaults = some kwd) (hRf : ∀ s, Xt s = true → RecFacts r.records s.heap) (hwr : (!r.writes || r.records.isEmpty) = true)
    (k₀ : (true || r.wellSaid) = true) (ok : (chainsOk q && opensWell r.prog && (frees r.toRowW && r.within.isEmpty)) = true) (hb : r.prog.bare) (hw : r.toRowW.promised)
    (parts : r.wellSaid = true ∧ LeftO r.prog q loose Xt Yf Ya N ∧ WalkP q loose XP YP r.toRowW d kwd) : r.Holds := by
  obtain ⟨k1, left, call⟩ := parts
  clear k₀ left₀
  obtain ⟨ok₁, ok₂⟩ := Bool.and_eq_true_iff.mp ok
  obtain ⟨hch, hop⟩ := Bool.and_eq_true_iff.mp ok₁
  obtain ⟨hfr, hwi₀⟩ := Bool.and_eq_true_iff.mp ok₂
  obtain ⟨hsame, hu, ha, hap, hm⟩ := frees_parts hfr
  have hwi : r.toRowW.claim.within = [] := List.isEmpty_iff.mp hwi₀
  have hi := ident_freeW (r := r.toRowW) hu ha hap
  refine ⟨k1, hw, ⟨hb, hop, by show r.toRowW.makers.map _ = []; rw [hm]; rfl⟩, hw.witness, fun w => ⟨(left.behind hX hch w).1, fun st hst => ?_⟩⟩
  obtain ⟨s₀, hfen, hg0, s, hT, hz, hgens, hg, G00, y⟩ := (left.behind (XP := fun mg h => XP mg h ∧ RecFacts r.records h) (fun s hs => ⟨hX s hs, hRf s hs⟩) hch w).2 st hst
  have G0 : Ground q loose [] XP w s (s.heap.nsMap mainGlobals) (s.heap.nsMap builtinsNs) s.heap := ⟨G00.T, G00.B, G00.D, G00.TE, G00.TD, G00.W, G00.X.1, G00.cls, G00.has, G00.apart, G00.once, G00.K⟩
  have RF := G00.X.2
  have hT' := hT
  have hgens : s.gens = #[] := Array.eq_empty_of_size_eq_zero (beq_iff_eq.mp hgens)
  have G : Ground q loose r.records XP w s _ _ s.heap := RF.ground G0
  refine ⟨s₀, hfen, hg0, s, hT, fun n hn => ?_, RF.1, RF.2.1, ?_⟩
  · obtain rfl : n = r.name := by split at hn <;> simp_all
    exact pinned_of_view hg G0 hdef hp hk
  intro args hpre hlay ord hord
  obtain ⟨⟨vs, s₁⟩, hlaid⟩ := Option.isSome_iff_exists.mp (layAllW_isSome (P := w.params) (ord := ord) G.has args r.args s (pre_splitW hpre).1)
  have keeps := layAllW_keeps _ _ _ hlaid
  have hal := layAllW_rest _ _ _ hlaid
  obtain ⟨as, hrd, hin, hold⟩ := reads_layAllW hord _ _ _ hlaid hlay s₁.heap (fun _ _ e => e)
  have L : Laid r.records w s s₁ args vs as := ⟨⟨ord, hord, hlaid⟩, hrd, hin, hold, keeps, hal.1.trans hgens, hal.2.2.1⟩
  have G₁ := G.keeps hXk keeps
  obtain ⟨a, o, pm, cd, doc, dV, kV, h1, h2, h3, h4, h5⟩ := G₁.fn hdef
  have hc := call w s s₁ _ _ G₁ (hYk _ _ _ (hY w s y) keeps) a o pm cd doc dV kV h2 h3 h4 h5 (defOf_name hdef ▸ h1) L.gens args vs as hpre hlay L.reads L.well (L.low G.low) default
  let R : Result → Shared → Prop := fun x s' => r.toRowW.claim.Ends s args vs s₁ x s' ∧ s'.os = s.os ∧ ∀ kps : List Str, r.writes = true → namesKept r.prog kps s.heap s'.heap ∧ ∀ x ∈ r.records, ∀ a, classAt s.heap x.1 = some a → recordClass s'.heap a x.1 (x.2.map (·.1)) = true
  have fin : ∀ x s', GoodWG r.toRowW.claim (classAt s.heap) (ExcName.means s.heap) args s₁ x s' → R x s' ∧ leftWithCleanup s'.gens = false := fun x s' g =>
    have z := g.laid (c := r.toRowW.claim) hsame hwi hi L
    ⟨⟨z.1, z.2.1, fun kps hq => ⟨namesKept_of hT' hg kps keeps g.2.1.old, noTable hwr hq⟩⟩, leftWithCleanup_false_of_bare z.2.2⟩
  have hx := stub_wp (name := r.name) (vs := vs) (w := w) (prog := r.prog) (Q := Sem.finPost (model r.prog w) Ctx0 fun x s' => R x s' ∧ leftWithCleanup s'.gens = false) (E := fun e _ s' => R (.error e) s' ∧ leftWithCleanup s'.gens = false) G₁.T.g (defOf_name hdef ▸ h1)
    (Sem.wp_mono _ _ _ (fun v p' s' g => fin _ _ g) (fun e p' s' g => fin _ _ g) _ _ hc)
  obtain ⟨k, res, s', s'', hsched, hrun, hfo, hR⟩ := wp_halts_full (M := model r.prog w) (Shared.asleep_of_life hal.2.2.2 hz) hx
  obtain ⟨eh, _, _, eo, _⟩ := Shared.forget_eq hfo
  obtain ⟨hends, hos, hkp⟩ := hR
  have hcase := hends.congr eh
  rw [← eo] at hos
  have hlife : s''.heap.life = s.heap.life := (runN_life _ _ _ hrun).trans hal.2.2.2
  refine ⟨vs, s₁, hlaid, k, _, s'', hsched, ?_, (fun _ i x hx => by rw [hgens] at hx; simp at hx), (by rw [eh]; exact hkp _), by rw [hlife], Shared.rest_eq hos⟩
  rcases hcase with ⟨v, rfl, d1, d2, d3, d4, d5⟩ | ⟨e, ob, cls, rfl, d1, d2, d3, d4, d5⟩
  · exact .inl ⟨v, rfl, d1, d2, d3, fun b o y _ => d4 b o y, d5⟩
  · exact .inr ⟨e, ob, cls, rfl, d1, d2, d3, d4, fun b o y _ => d5 b o y⟩
end Mine
end
section
open PySem PySem.W PyProof.Rows
set_option maxRecDepth 100000
set_option maxHeartbeats 8000000
namespace Mine
open_top hd for PySem.Challenge.rw_xp0024_01.row
end Mine
end
section
open PySem PySem.W PyProof.Rows
set_option maxRecDepth 100000
set_option maxHeartbeats 8000000
namespace Mine
theorem hd_armF (w : World) : PartP hd (w.withFollow "special-get-raises" false) := by kernel_rfl
theorem hd_armT (w : World) : PartP hd (w.withFollow "special-get-raises" true) := by kernel_rfl
theorem hd_left : PartL hd := fun w => byRow2 (P := PartP hd) "special-get-raises" hd_armF hd_armT w
theorem law_said : PySem.Challenge.rw_xp0024_01.wellSaid = true := by kernel_rfl
theorem hdW (h : PartR hd) : PySem.Challenge.rw_xp0024_01.Holds := holds_law law_said fun said => hd ⟨said, hd_left, h⟩
end Mine
end
section
open PySem PySem.W PyProof.Rows PySem.Calls PySem.Spec
set_option maxRecDepth 100000
set_option maxHeartbeats 8000000
namespace Mine

abbrev No : Value → Shared → Prop := fun _ _ => False

def Keeps (h h' : Heap) : Prop := ∀ b o, h.get? b = some o → h'.get? b = some o
theorem Keeps.rfl {h : Heap} : Keeps h h := fun _ _ e => e
theorem Keeps.trans {h h' h'' : Heap} (a : Keeps h h') (b : Keeps h' h'') : Keeps h h'' := fun c o e => b c o (a c o e)

/-- what stands at the top, at a heap -/
structure Ok (w : World) (mg mb : Str → Option Value) (h : Heap) : Prop where
  k : (hd.heap_1 w.params).In h
  t : TopRead hd.view_1 (looseW hd.view_1 [Str.ofString "Whitespace"]) mg mb h
theorem Ok.keeps {w : World} {mg mb : Str → Option Value} {h h' : Heap} (O : Ok w mg mb h) (k : Keeps h h') : Ok w mg mb h' := ⟨O.k.keeps k, O.t.keeps k⟩

structure Room (A : Around) (d u : Nat) : Prop where
  h : A.handled = none
  d : A.depth + d < recursionLimit
  u : A.units + u < cLine
theorem Room.deeper {A : Around} {d u : Nat} {env : Env} (R : Room A (d + 1) (u + 3)) : Room (A.deeper env) d u :=
  ⟨R.h, by have := R.d; show A.depth + 1 + d < _; omega, by have := R.u; show A.units + 3 + u < _; omega⟩
theorem Room.le {A : Around} {d u d' u' : Nat} (R : Room A d u) (hd : d' ≤ d) (hu : u' ≤ u) : Room A d' u' :=
  ⟨R.h, by have := R.d; omega, by have := R.u; omega⟩
theorem Room.in1 {A : Around} {d u : Nat} (R : Room A d (u + 1)) : Room A.in1 d u :=
  ⟨R.h, R.d, by have := R.u; show A.units + 1 + u < _; omega⟩

/-- a call of a def: from s, within Room, it hands back a value as Post says; everything that stood stands -/
def Spec (w : World) (f : Addr) (vs : List Value) (s : Shared) (d u : Nat) (Post : Value → Heap → Prop) : Prop :=
  ∀ (dp un : Nat) (fr : Option (List Env)) (gs : Option (List Code)) (Q : Value → Shared → Prop), Room ⟨none, dp, fr, gs, un⟩ d u →
    (∀ v h' tk, Keeps s.heap h' → Post v h' → Q v { s with heap := h', toks := tk }) →
    wpAny (model PySem.Challenge.rw_xp0024_01.row.prog w) ⟨none, dp, fr, gs, un⟩ (call (.ref f) vs) Q No s

theorem Fr.later {h₀ h h' : Heap} {L : Addr} {m : Str → Option Value} (F : Fr h₀ L h m) (k : Keeps h h') : Fr h₀ L h' m :=
  ⟨F.ns.keeps k, fun b o e => k b o (F.keep b o e), F.above⟩
theorem News.later {h₀ h h' : Heap} {L : Addr} {news : List (Addr × Obj)} (N : News h₀ L h news) (k : Keeps h h') : News h₀ L h' news :=
  fun p hp => ⟨k _ _ (N p hp).1, (N p hp).2⟩

theorem use {w : World} {f : Addr} {vs : List Value} {s : Shared} {d u : Nat} {Post : Value → Heap → Prop} {A : Around} {Q E : Value → Shared → Prop} {h₀ : Heap} {L : Addr} {m : Str → Option Value} {news : List (Addr × Obj)}
    (S : Spec w f vs s d u Post) (F : Fr h₀ L s.heap m) (N : News h₀ L s.heap news) (R : Room A d u)
    (h : ∀ v h' tk, Keeps s.heap h' → Fr h₀ L h' m → News h₀ L h' news → Post v h' → Q v { s with heap := h', toks := tk }) :
    wpAny (model PySem.Challenge.rw_xp0024_01.row.prog w) A (call (.ref f) vs) Q E s := by
  obtain ⟨hd, dp, fr, gs, un⟩ := A
  obtain rfl : hd = none := R.h
  exact wpAny_mono (S dp un fr gs Q R fun v h' tk k p => h v h' tk k (Fr.later F k) (News.later N k) p) (fun _ _ x => x) fun _ _ x => x.elim

/-- names that are known, over a map -/
def ov (l : List (Str × Value)) (m : Str → Option Value) : Str → Option Value := match l with
  | [] => m
  | (k, v) :: r => fun y => if y = k then some v else ov r m y
theorem ov_eq {m : Str → Option Value} : ∀ {l : List (Str × Value)}, (∀ p ∈ l, m p.1 = some p.2) → ov l m = m
  | [], _ => rfl
  | p :: r, h => by
    funext y
    show (if y = p.1 then some p.2 else ov r m y) = m y
    rw [ov_eq fun q hq => h q (.tail _ hq)]
    by_cases e : y = p.1
    · rw [if_pos e, e, h p (.head _)]
    · rw [if_neg e]
theorem Fr.ov {h₀ h : Heap} {L : Addr} {m : Str → Option Value} {l : List (Str × Value)} (F : Fr h₀ L h m) (hl : ∀ p ∈ l, m p.1 = some p.2) : Fr h₀ L h (Mine.ov l m) := by rw [ov_eq hl]; exact F

theorem lookup_ov {binds : List (Str × Value)} (hnd : (binds.map (·.1)).Nodup) : (fun y => binds.reverse.lookup y) = ov binds fun _ => none := by
  funext y
  have key : ∀ (l : List (Str × Value)), (l.map (·.1)).Nodup → l.reverse.lookup y = ov l (fun _ => none) y := by
    intro l
    induction l with
    | nil => intro _; rfl
    | cons q r ih =>
      intro hn
      rw [List.map_cons, List.nodup_cons] at hn
      rw [List.reverse_cons, List.lookup_append, ih hn.2]
      show _ = if y = q.1 then some q.2 else ov r (fun _ => none) y
      by_cases hq : y = q.1
      · subst hq
        have hno : ov r (fun _ => none) q.1 = none := by
          have z := hn.1
          clear ih hn
          induction r with
          | nil => rfl
          | cons a r ih =>
            show (if q.1 = a.1 then some a.2 else ov r (fun _ => none) q.1) = none
            rw [List.map_cons, List.mem_cons, not_or] at z
            rw [if_neg z.1]
            exact ih z.2
        rw [hno, if_pos rfl]
        show [q].lookup q.1 = some q.2
        rw [List.lookup_cons]
        simp
      · rw [if_neg hq]
        have h1 : [q].lookup y = none := by
          rw [List.lookup_cons]
          have : (y == q.1) = false := by simpa using hq
          rw [this]; rfl
        rw [h1, Option.or_none]
  exact key binds hnd

theorem enterX {prog : Program} {w : World} {A : Around} {s : Shared} {K : Frag} {mg mb : Str → Option Value} {R : Result → Shared → Prop} {p : Program} {loose : List Str}
    {name qual : Str} {params : Arguments} {body : List Stmt} {scope : Scope} {dV kV doc pm cdv ct oc : Value} {an od : Option Addr} {osl : Array (Option Value)} {f : Addr} {args : Args}
    (X : K.In s.heap) (T : TopRead p loose mg mb s.heap) (binds : List (Str × Value))
    (ho : K.lookup f = some ⟨oc, od, .func (fnOf name qual params body scope dV kV doc pm an cdv ct), osl⟩) (hcd : codeIn K cdv qual = true) (hroom : A.depth < recursionLimit)
    (hbind : bindArgs (fnOf name qual params body scope dV kV doc pm an cdv ct) args = pure binds) (hloc : ∀ y ∈ binds, scope.names.lookup y.1 = some .local)
    (hnd : (binds.map (·.1)).Nodup)
    (h : ∀ h₁, Fr s.heap s.heap.objs.size h₁ (ov binds fun _ => none) → News s.heap s.heap.objs.size h₁ [] →
      wpAny (model prog w) (A.deeper (envX qual scope s.heap.objs.size f cdv [])) (execs body (envX qual scope s.heap.objs.size f cdv []))
        (fun fl s' => R (.ok (.ret (match fl with | .ret v => v | _ => .none))) s') (fun _ _ => False)
        { s with heap := h₁, toks := s.toks + binds.length })
    (hco : scope.isCoroutine = false) (hgen : scope.isGenerator = false) (hk : scope.kind = .function)
    (hcell : ∀ x ∈ scope.names, x.2 ≠ .cell) : codeAny (model prog w) A (.call (.ref f) args) R s := by
  refine codeAny_call_def (fd := fnOf name qual params body scope dV kV doc pm an cdv ct) (body := body) (binds := binds) hroom (X _ _ ho) rfl (TopRead.nolimit T) (codeRec_of X hcd) rfl (BindsTo.of_eq hbind) hcell hloc (fun h₁ hns hk₁ => ?_) hco hgen hk
  have e : (fun y => binds.reverse.lookup y) = ov binds fun _ => none := lookup_ov hnd
  rw [e] at hns
  refine wpAny_mono (h h₁ ⟨hns, hk₁, Nat.le_refl _⟩ (fun _ hp => nomatch hp)) (fun _ _ y => y) (fun _ _ y => y.elim)

end Mine
end
section
open PySem PySem.W PyProof.Rows PySem.Calls PySem.Spec PyProof.V
set_option maxRecDepth 100000
set_option maxHeartbeats 8000000
namespace Mine

def Apart (own news : List (Addr × Obj)) : Prop := ∀ q ∈ own, ∀ p ∈ news, q.1 ≠ p.1

/-- the end of a turn -/
def EndS (h₀ : Heap) (L : Addr) (own : List (Addr × Obj)) (J : (Str → Option Value) → List (Addr × Obj) → Prop) (s₁ : Shared) (Qr : Value → Shared → Prop) (Qb : Shared → Prop) (f : Flow) (s₂ : Shared) : Prop :=
  match f with
  | .ret v => Qr v s₂
  | .brk => Qb s₂
  | _ => ∃ h' tk m₂ news₂, s₂ = { s₁ with heap := h', toks := tk } ∧ Fr h₀ L h' m₂ ∧ News h₀ L h' (own ++ news₂) ∧ Apart own news₂ ∧ J m₂ news₂

theorem EndS.next {h₀ : Heap} {L : Addr} {own : List (Addr × Obj)} {J : (Str → Option Value) → List (Addr × Obj) → Prop} {s₁ : Shared} {Qr : Value → Shared → Prop} {Qb : Shared → Prop} {h' : Heap} {tk : Nat} {m₂ : Str → Option Value} (news₂ : List (Addr × Obj))
    (F : Fr h₀ L h' m₂) (N : News h₀ L h' (own ++ news₂)) (ha : Apart own news₂) (hJ : J m₂ news₂) : EndS h₀ L own J s₁ Qr Qb .next { s₁ with heap := h', toks := tk } :=
  ⟨h', tk, m₂, news₂, rfl, F, N, ha, hJ⟩

section
variable {prog : Program} {w : World} {A : Around} {E : Value → Shared → Prop} {s : Shared} {env : Env} {h₀ : Heap} {target : Expr} {body : List Stmt} {Q : Flow → Shared → Prop}

theorem turnsAt {I : Addr} {fp wr : List Addr} {n : Nat} {P Md : Nat → Value → Heap → Prop} {St : Nat → Heap → Prop} {m : Str → Option Value} {news : List (Addr × Obj)} (W : KTurns prog w A target I fp wr n P Md St)
    (live : ∀ i h, St i h → ∀ b ∈ fp, ∃ o, h.get? b = some o)
    (hLf : env.locals ∉ fp) (hwr : ∀ b ∈ wr, h₀.get? b = none) (hst : St 0 s.heap) (F : Fr h₀ env.locals s.heap m) (N : News h₀ env.locals s.heap news) (hfp : ∀ p ∈ news, p.1 ∉ fp)
    (J : Nat → (Str → Option Value) → List (Addr × Obj) → Prop) (h0 : J 0 m news)
    (step : ∀ i v m₁ news₁ h₁ tk₁ own, i < n → P i v h₁ → J i m₁ news₁ → Apart own news₁ → (∀ q ∈ own, h₁.get? q.1 = some q.2) → Fr h₀ env.locals h₁ m₁ → News h₀ env.locals h₁ (own ++ news₁) →
      wpAny (model prog w) A (assign target env v) (fun _ s₃ => wpAny (model prog w) A (execs body env)
        (EndS h₀ env.locals own (J (i + 1)) { s with heap := h₁, toks := tk₁ } (fun v s' => Q (.ret v) s') fun s' => Q .next s') E s₃) E { s with heap := h₁, toks := tk₁ })
    (done : ∀ h' tk m' news', Fr h₀ env.locals h' m' → News h₀ env.locals h' news' → J n m' news' → Q .next { s with heap := h', toks := tk }) :
    TurnsAt prog w A h₀ env target body Q E (.ref I) s := by
  refine ⟨I, fp, wr, n, P, Md, St, m, news, fun i m' news' => (∀ p ∈ news', p.1 ∉ fp) ∧ J i m' news', rfl, W, hLf, hwr, fun p hp hb => hfp p hp (W.sub _ hb), hst, F, N, ⟨hfp, h0⟩, ?_, fun h' tk m' news' F' N' _ hJ => done h' tk m' news' F' N' hJ.2⟩
  rintro i v m₁ news₁ h₁ tk₁ own hi hP ⟨hf, hJ⟩ _ hsub hget hall hst₁ F₁ N₁
  have hap : Apart own news₁ := fun q hq p hp e => hf p hp (e ▸ hsub q hq)
  refine wpAny_mono (step i v m₁ news₁ h₁ tk₁ own hi hP hJ hap hget F₁ N₁) (fun _ s₃ h₃ => wpAny_mono h₃ (fun f s₄ h₄ => ?_) fun _ _ x => x) fun _ _ x => x
  have fin : (∃ h' tk m₂ news₂, s₄ = { s with heap := h', toks := tk } ∧ Fr h₀ env.locals h' m₂ ∧ News h₀ env.locals h' (own ++ news₂) ∧ Apart own news₂ ∧ J (i + 1) m₂ news₂) →
      LoopStepU h₀ env.locals wr own (fun m' news' => (∀ p ∈ news', p.1 ∉ fp) ∧ J (i + 1) m' news') { s with heap := h₁, toks := tk₁ } .next s₄ := by
    rintro ⟨h', tk, m₂, news₂, rfl, F₂, N₂, ha, hJ₂⟩
    have hno : ∀ p ∈ news₂, p.1 ∉ fp := by
      intro p hp hb
      cases hn : h₀.get? p.1 with
      | some o => have := (N₂ p (List.mem_append_right _ hp)).2.2; rw [hn] at this; cases this
      | none =>
        obtain ⟨o, ho⟩ := live _ _ hst₁ _ hb
        exact ha _ (hall _ hb hn o ho) p hp rfl
    exact ⟨rfl, h', tk, m₂, news₂, rfl, F₂, N₂, fun p hp hb => hno p hp (W.sub _ hb), hno, hJ₂⟩
  cases f with
  | ret v => exact h₄
  | brk => exact h₄
  | cont => exact fin h₄
  | next => exact fin h₄

/-- a For, whatever it walks over -/
theorem forT {iter : Expr} {pos : Pos} {m : Str → Option Value} (F : Fr h₀ env.locals s.heap m)
    (h : wpAny (model prog w) A (eval iter env) (fun xv s₁ => wpAny (model prog w) A (pyIter xv) (fun it s₂ => TurnsAt prog w A h₀ env target body Q No it s₂) No s₁) No s)
    (hs : ∀ x, foldedSetIterable iter env x = pure x := by intro _; rfl) :
    wpAny (model prog w) A (exec (.For target iter body [] pos) env) Q No s := For_turns F h hs PassesOwn.never
end

def Stopped (P : Prop) : Prop := P
theorem stop_here {P : Prop} (h : Stopped P) : P := h
theorem go_on {P : Prop} (h : P) : Stopped P := h

/-! dicts of ints -/
noncomputable abbrev IK (w : World) := intKind (PySem.Challenge.rw_xp0024_01.row.prog) w
def enc (d : List (Int × Int)) : List (PyData × PyData) := d.map fun p => (.int p.1, .int p.2)
def IsD (w : World) (h : Heap) (a : Addr) (d : List (Int × Int)) : Prop := TabAt (IK w) PyData.int h a (enc d)
theorem IsD.keeps {w : World} {h h' : Heap} {a : Addr} {d : List (Int × Int)} (T : IsD w h a d) (k : Keeps h h') : IsD w h' a d := TabAt.keep T k

def put (d : List (Int × Int)) (k v : Int) : List (Int × Int) :=
  if d.any (fun p => decide (p.1 = k)) then d.map (fun p => if p.1 = k then (p.1, v) else p) else d ++ [(k, v)]
def gt (d : List (Int × Int)) (k : Int) : Option Int := (d.find? fun p => decide (p.1 = k)).map (·.2)
def addOne (acc : List (Int × Int)) (p : Int × Int) : List (Int × Int) := put acc p.1 (match gt acc p.1 with | some v => v + p.2 | none => p.2)
def addc (d₁ d₂ : List (Int × Int)) : List (Int × Int) := d₂.foldl addOne d₁

theorem enc_put (d : List (Int × Int)) (k v : Int) : putD (.int k) (.int v) (enc d) = enc (put d k v) := by
  unfold putD put enc
  have h1 : ((d.map fun p => ((PyData.int p.1, PyData.int p.2) : PyData × PyData)).any fun p => same p.1 (PyData.int k)) = d.any fun p => decide (p.1 = k) := by
    rw [List.any_map]
    congr 1
  rw [h1]
  split
  · rw [List.map_map, List.map_map]
    apply List.map_congr_left
    intro p _
    show (if same (PyData.int p.1) (PyData.int k) = true then (PyData.int p.1, PyData.int v) else (PyData.int p.1, PyData.int p.2)) = _
    rw [same_int]
    by_cases e : p.1 = k
    · simp [e]
    · simp [e]
  · simp
section
variable {w : World} {A : Around} {E : Value → Shared → Prop} {s : Shared} {env : Env} {h₀ : Heap} {body : List Stmt} {Q : Flow → Shared → Prop}
theorem itemsAt {elts : List Expr} {kk : Nat} {pos : Pos} {d vw : Addr} {D : List (Int × Int)} {m : Str → Option Value} {news : List (Addr × Obj)} (hh : A.handled = none)
    (F : Fr h₀ env.locals s.heap m) (N : News h₀ env.locals s.heap news) (hvw : ∃ ov, s.heap.get? vw = some ov ∧ ov.cls = .type "dict_items" ∧ ov.data = .fields #[.ref d]) (hD : IsD w s.heap d D) (hdL : d ≠ env.locals) (hdn : ∀ p ∈ news, p.1 ≠ d)
    (J : Nat → (Str → Option Value) → List (Addr × Obj) → Prop) (h0 : J 0 m news)
    (step : ∀ i k v t u T m₁ news₁ h₁ tk₁ own, D[i]? = some (k, v) → IsTup h₁ T #[.int k t, .int v u] → J i m₁ news₁ → Apart own news₁ → (∀ q ∈ own, h₁.get? q.1 = some q.2) → Fr h₀ env.locals h₁ m₁ → News h₀ env.locals h₁ (own ++ news₁) →
      wpAny (model PySem.Challenge.rw_xp0024_01.row.prog w) A (assign (.Tuple elts kk pos) env (.ref T)) (fun _ s₃ => wpAny (model PySem.Challenge.rw_xp0024_01.row.prog w) A (execs body env)
        (EndS h₀ env.locals own (J (i + 1)) { s with heap := h₁, toks := tk₁ } (fun v s' => Q (.ret v) s') fun s' => Q .next s') E s₃) E { s with heap := h₁, toks := tk₁ })
    (done : ∀ h' tk m' news', Fr h₀ env.locals h' m' → News h₀ env.locals h' news' → J D.length m' news' → Q .next { s with heap := h', toks := tk }) :
    wpAny (model PySem.Challenge.rw_xp0024_01.row.prog w) A (pyIter (.ref vw)) (fun it s₂ => TurnsAt PySem.Challenge.rw_xp0024_01.row.prog w A h₀ env (.Tuple elts kk pos) body Q E it s₂) E s := by
  obtain ⟨_, kvs, hdo, hf⟩ := hD
  obtain ⟨ep, hat⟩ := hdo.dictAt
  have hne : d ≠ s.heap.objs.size := Nat.ne_of_lt hat.lt_size
  have hlen : D.length = kvs.length := by have := hf.length; unfold enc at this; rw [List.length_map] at this; exact this
  refine wpAny_pyIter_items hvw hat ?_
  refine turnsAt (s := { s with heap := _ }) (kti_itemsTurns (knd := IK w) hh s.heap.objs.size d hne kvs ep) ?_ ?_ ?_ ⟨⟨_, _, Heap.get?_push_size _ rfl⟩, hat.push _⟩ (F.push _) (fun p hp => ⟨Heap.get?_push_of_some _ (N p hp).1, (N p hp).2⟩) ?_ J h0 ?_ ?_
  · rintro i h ⟨⟨ok, ov, he⟩, hm⟩ b hb
    rcases List.mem_cons.mp hb with rfl | hb
    · exact ⟨_, he⟩
    · obtain ⟨o, _, ho, _⟩ := hm
      exact ⟨o, List.mem_singleton.mp hb ▸ ho⟩
  · intro hb
    rcases List.mem_cons.mp hb with e | hb
    · exact absurd F.ns.lt (e ▸ Nat.lt_irrefl _)
    · exact hdL (List.mem_singleton.mp hb).symm
  · intro b hb
    rw [List.mem_singleton.mp hb]
    exact next_is_new F
  · intro p hp hb
    rcases List.mem_cons.mp hb with e | hb
    · exact absurd (Heap.lt_size (N p hp).1) (e ▸ Nat.lt_irrefl _)
    · exact hdn p hp (List.mem_singleton.mp hb)
  · rintro i v m₁ news₁ h₁ tk₁ own hi ⟨T, key, k, x, rfl, hx, hk, hT⟩ hJ hap hown F₁ N₁
    obtain ⟨dv, hdv, hfl⟩ := hf.at hx
    obtain ⟨t, rfl⟩ := Value.isInt_shape (k := k) hk
    unfold enc at hdv
    rw [List.getElem?_map] at hdv
    cases hq : D[i]? with
    | none => rw [hq] at hdv; cases hdv
    | some p =>
      obtain ⟨pk, pv⟩ := p
      rw [hq] at hdv
      simp only [Option.map_some, Option.some.injEq, Prod.mk.injEq, PyData.int.injEq] at hdv
      obtain ⟨rfl, rfl⟩ := hdv
      obtain ⟨u, rfl⟩ := hfl.int_inv
      exact step i _ _ _ _ T m₁ news₁ h₁ tk₁ own hq hT hJ hap hown F₁ N₁
  · intro h' tk m' news' F' N' hJ
    exact done h' tk m' news' F' N' (hlen ▸ hJ)
end
section
variable {w : World} {A : Around} {E : Value → Shared → Prop} {s : Shared} {h₀ : Heap} {L : Addr} {m : Str → Option Value} {news : List (Addr × Obj)} {d : Addr} {D : List (Int × Int)} {R : Value → Shared → Prop}
theorem callItems (hD : IsD w s.heap d D) (F : Fr h₀ L s.heap m) (N : News h₀ L s.heap news)
    (h : ∀ h', Keeps s.heap h' → (∃ ov, h'.get? s.heap.objs.size = some ov ∧ ov.cls = .type "dict_items" ∧ ov.data = .fields #[.ref d]) → Fr h₀ L h' m → News h₀ L h' news → R (.ref s.heap.objs.size) { s with heap := h' }) :
    wpAny (model PySem.Challenge.rw_xp0024_01.row.prog w) A (call (.builtin "dict.items") [.ref d]) R E s :=
  let ⟨lo, kvs, hd, _⟩ := hD
  call_meetsIn PySem.F.slot_dict_items hd.typeIs PySem.F.entry_dict_items (PySem.F.args_dict_items_1 _) (meets_dict_items (IK w) d lo) ⟨⟨kvs, hd⟩, h _ (fun _ _ e => Heap.get?_push_of_some _ e) ⟨_, Heap.get?_push_size _ rfl, rfl, rfl⟩ (F.push _) fun p hp => ⟨Heap.get?_push_of_some _ (N p hp).1, (N p hp).2⟩⟩
theorem callValues (hD : IsD w s.heap d D) (F : Fr h₀ L s.heap m) (N : News h₀ L s.heap news)
    (h : ∀ h', Keeps s.heap h' → h'.IsValuesView s.heap.objs.size d → Fr h₀ L h' m → News h₀ L h' news → R (.ref s.heap.objs.size) { s with heap := h' }) :
    wpAny (model PySem.Challenge.rw_xp0024_01.row.prog w) A (call (.builtin "dict.values") [.ref d]) R E s :=
  let ⟨lo, kvs, hd, _⟩ := hD
  call_meetsIn PySem.F.slot_dict_values hd.typeIs PySem.F.entry_dict_values (PySem.F.args_dict_values_1 _) (meets_dict_values (IK w) d lo) ⟨⟨kvs, hd⟩, h _ (fun _ _ e => Heap.get?_push_of_some _ e) ⟨_, Heap.get?_push_size _ rfl, rfl, rfl⟩ (F.push _) fun p hp => ⟨Heap.get?_push_of_some _ (N p hp).1, (N p hp).2⟩⟩

theorem IsD.nodup {h : Heap} (hD : IsD w h d D) : (D.map (·.1)).Nodup := by
  obtain ⟨_, kvs, hd, hf⟩ := hD
  obtain ⟨_, hat⟩ := hd.dictAt
  have hn := hat.nodup
  have key : ∀ {kvs : List (Int × Value)} {D : List (Int × Int)}, FlatPairs PyData.int kvs (enc D) → kvs.map (·.1) = D.map (·.1) := by
    intro kvs
    induction kvs with
    | nil => intro D hf; cases D with
      | nil => rfl
      | cons p r => cases hf
    | cons q r ih => intro D hf; cases D with
      | nil => cases hf
      | cons p r' =>
        obtain ⟨k, v⟩ := q
        unfold enc at hf
        rw [List.map_cons] at hf
        generalize hx : (PyData.int p.1, PyData.int p.2) = x at hf
        generalize hy : List.map (fun p : Int × Int => ((PyData.int p.1, PyData.int p.2) : PyData × PyData)) r' = y at hf
        cases hf with
        | cons a b =>
          subst hy
          injection hx with h1 h2
          injection h1 with h1
          rw [List.map_cons, List.map_cons, ih b, h1]
  rw [← key hf]; exact hn
theorem IsD.live {h : Heap} (hD : IsD w h d D) : ∃ o, h.get? d = some o := by
  obtain ⟨_, kvs, ⟨o, es, ep, ho, _⟩, hf⟩ := hD
  exact ⟨o, ho⟩
theorem IsD.notSys {h : Heap} (hD : IsD w h d D) : (d == sysModules) = false := hD.1
end
theorem setI {w : World} {A : Around} {E : Value → Shared → Prop} {s : Shared} {h₀ : Heap} {L : Addr} {m : Str → Option Value} {pre post : List (Addr × Obj)} {r : Addr} {o : Obj} {kvs : List (Int × Value)} {D : List (Int × Int)} {k v : Int} {t u : Tok} {Q : Unit → Shared → Prop}
    (F : Fr h₀ L s.heap m) (N : News h₀ L s.heap (pre ++ (r, o) :: post)) (h1 : ∀ p ∈ pre, p.1 ≠ r) (h2 : ∀ p ∈ post, p.1 ≠ r) (hio : o.IsDictOf (IK w) kvs) (hfo : FlatPairs PyData.int kvs (enc D)) (hl : D.length ≤ 2 ^ 20)
    (h : ∀ h' o' kvs', Fr h₀ L h' m → News h₀ L h' (pre ++ (r, o') :: post) → o'.IsDictOf (IK w) kvs' → FlatPairs PyData.int kvs' (enc (put D k v)) → Q () { s with heap := h', toks := s.toks + 1 }) :
    wpAny (model PySem.Challenge.rw_xp0024_01.row.prog w) A (setItem (.ref r) (.int k t) (.int v u)) Q E s :=
  setItem_madeIn (hsz := by unfold enc; rw [List.length_map]; exact Nat.le_trans hl (by decide)) same_int (intKind_is _ w k t) (Flat.int v u) F N h1 h2 hio hfo fun h' o' F' N' hd' hf' => h h' o' _ F' N' hd' (by rw [← enc_put]; exact hf')
theorem flat_gt (k : Int) : ∀ {kvs : List (Int × Value)} {D : List (Int × Int)}, FlatPairs PyData.int kvs (enc D) →
    (gt D k = none ∧ valueAt kvs k = none) ∨ ∃ v t, gt D k = some v ∧ valueAt kvs k = some (.int v t) := by
  intro kvs
  induction kvs with
  | nil => intro D hf; cases D with
    | nil => exact .inl ⟨rfl, rfl⟩
    | cons p r => cases hf
  | cons q r ih => intro D hf; cases D with
    | nil => cases hf
    | cons p r' =>
      obtain ⟨k', v'⟩ := q
      obtain ⟨pk, pv⟩ := p
      unfold enc at hf
      rw [List.map_cons] at hf
      generalize hx : (PyData.int pk, PyData.int pv) = x at hf
      generalize hy : List.map (fun p : Int × Int => ((PyData.int p.1, PyData.int p.2) : PyData × PyData)) r' = y at hf
      cases hf with
      | cons a b =>
        subst hy
        injection hx with h1 h2
        injection h1 with h1
        subst h1 h2
        obtain ⟨u, rfl⟩ := a.int_inv
        by_cases e : pk = k
        · refine .inr ⟨pv, u, ?_, ?_⟩ <;> simp [gt, valueAt, e]
        · rcases ih b with ⟨h3, h4⟩ | ⟨v, t, h3, h4⟩
          · exact .inl ⟨by simpa [gt, e] using h3, by simpa [valueAt, e] using h4⟩
          · exact .inr ⟨v, t, by simpa [gt, e] using h3, by simpa [valueAt, e] using h4⟩
section
variable {w : World} {A : Around} {E : Value → Shared → Prop} {s : Shared} {d : Addr} {D : List (Int × Int)} {k : Int} {t : Tok}
theorem inI {Q : Value → Shared → Prop} (hD : IsD w s.heap d D) (h : Q (.bool (gt D k).isSome) { s with toks := s.toks + 1 }) : wpAny (model PySem.Challenge.rw_xp0024_01.row.prog w) A (compareOp .In (.int k t) (.ref d)) Q E s := by
  obtain ⟨lo, kvs, hd, hf⟩ := hD
  refine wpAny_in_of (intKind_is _ w k t) lo hd.mapOf ?_
  rcases flat_gt k hf with ⟨h3, h4⟩ | ⟨v, u, h3, h4⟩ <;> rw [h3] at h <;> rw [h4] <;> exact h
theorem getI {v : Int} {Q : Value → Shared → Prop} (hD : IsD w s.heap d D) (hg : gt D k = some v) (h : ∀ u, Q (.int v u) { s with toks := s.toks + 1 }) : wpAny (model PySem.Challenge.rw_xp0024_01.row.prog w) A (getItem (.ref d) (.int k t)) Q E s := by
  obtain ⟨lo, kvs, hd, hf⟩ := hD
  rcases flat_gt k hf with ⟨h3, h4⟩ | ⟨v', u, h3, h4⟩
  · rw [h3] at hg; cases hg
  · rw [h3] at hg; cases hg
    exact wpAny_getItem_of (intKind_is _ w k t) hd.mapOf h4 (h u)
end
theorem IsD.ofN {w : World} {h₀ h : Heap} {L r : Addr} {news : List (Addr × Obj)} {o : Obj} {kvs : List (Int × Value)} {D : List (Int × Int)} (N : News h₀ L h news) (hm : (r, o) ∈ news) (lo : (r == sysModules) = false) (hio : o.IsDictOf (IK w) kvs) (hfo : FlatPairs PyData.int kvs (enc D)) : IsD w h r D :=
  TabAt.ofNews N hm lo hio hfo
theorem lookup_enc (D : List (Int × Int)) (k : Int) : PySem.Spec.lookup (.int k) (enc D) = (gt D k).map PyData.int := by
  induction D with
  | nil => rfl
  | cons p r ih =>
    show PySem.Spec.lookup (.int k) ((.int p.1, .int p.2) :: enc r) = _
    unfold PySem.Spec.lookup
    rw [same_int]
    by_cases e : p.1 = k
    · simp [gt, e]
    · rw [show decide (p.1 = k) = false from decide_eq_false e]
      rw [if_neg Bool.false_ne_true, ih]
      simp [gt, e]
theorem put_new {d : List (Int × Int)} {k v : Int} (h : k ∉ d.map (·.1)) : put d k v = d ++ [(k, v)] := by
  unfold put
  rw [if_neg]
  intro h'
  obtain ⟨p, hp, e⟩ := List.any_eq_true.mp h'
  exact h (List.mem_map.mpr ⟨p, hp, of_decide_eq_true e⟩)
theorem put_take {d : List (Int × Int)} (hn : (d.map (·.1)).Nodup) {i : Nat} {k v : Int} (h : d[i]? = some (k, v)) : put (d.take i) k v = d.take (i + 1) := by
  rw [put_new, List.take_add_one, h]; rfl
  intro hm
  obtain ⟨p, hp, e⟩ := List.mem_map.mp hm
  obtain ⟨hi, he⟩ := List.getElem?_eq_some_iff.mp h
  obtain ⟨j, hj, hj'⟩ := List.mem_take_iff_getElem.mp hp
  have hjl : j < i := by omega
  rw [List.Nodup, List.pairwise_iff_getElem] at hn
  have := hn j i (by rw [List.length_map]; omega) (by rw [List.length_map]; exact hi) hjl
  rw [List.getElem_map, List.getElem_map, he] at this
  exact this (by rw [hj']; exact e)
theorem put_length (d : List (Int × Int)) (k v : Int) : (put d k v).length ≤ d.length + 1 := by
  unfold put
  split
  · rw [List.length_map]; omega
  · rw [List.length_append]; simp
theorem addc_length (d₁ d₂ : List (Int × Int)) : (addc d₁ d₂).length ≤ d₁.length + d₂.length := by
  unfold addc
  induction d₂ generalizing d₁ with
  | nil => exact Nat.le_refl _
  | cons p r ih =>
    rw [List.foldl_cons]
    have h1 := ih (addOne d₁ p)
    have h2 : (addOne d₁ p).length ≤ d₁.length + 1 := put_length _ _ _
    rw [List.length_cons]; omega
theorem addc_take {d₁ d₂ : List (Int × Int)} {i : Nat} {p : Int × Int} (h : d₂[i]? = some p) : addc d₁ (d₂.take (i + 1)) = addOne (addc d₁ (d₂.take i)) p := by
  unfold addc
  rw [List.take_add_one, h, List.foldl_append]; rfl
theorem newsNew {h₀ h h' : Heap} {L : Addr} {m : Str → Option Value} {news : List (Addr × Obj)} {o : Obj} (F : Fr h₀ L h m) (N : News h₀ L h news) (k : Keeps h h') (ho : h'.get? h.objs.size = some o) : News h₀ L h' ((h.objs.size, o) :: news) := by
  intro p hp
  rcases List.mem_cons.mp hp with rfl | hp
  · refine ⟨ho, Nat.ne_of_gt F.ns.lt, ?_⟩
    cases q : h₀.get? h.objs.size with
    | none => rfl
    | some o' => exact absurd (Heap.lt_size (F.keep _ _ q)) (Nat.lt_irrefl _)
  · exact News.later N k p hp
/-- what a contract made, onto the ledger -/
theorem newsAdd {h₀ h h' : Heap} {L r : Addr} {m : Str → Option Value} {news : List (Addr × Obj)} {o : Obj} (F : Fr h₀ L h m) (N : News h₀ L h news) (k : Keeps h h') (hn : h.get? r = none) (ho : h'.get? r = some o) : News h₀ L h' ((r, o) :: news) := by
  intro p hp
  rcases List.mem_cons.mp hp with rfl | hp
  · refine ⟨ho, ?_, ?_⟩
    · intro e
      obtain ⟨oL, _, _, hL, _⟩ := F.ns
      have e' : r = L := e
      rw [e', hL] at hn; cases hn
    · cases q : h₀.get? r with
      | none => rfl
      | some o' => have := F.keep _ _ q; rw [hn] at this; cases this
  · exact News.later N k p hp
end Mine
end
section
open PySem PySem.W PyProof.Rows PySem.Calls PySem.Spec PyProof.V
set_option maxRecDepth 100000
set_option maxHeartbeats 8000000
namespace Mine
theorem range_small {a b c : Int} (h1 : -1000000 ≤ a) (h2 : a ≤ 1000000) (h3 : -1000000 ≤ b) (h4 : b ≤ 1000000) (h5 : (c = 1 ∨ c = 2 ∨ c = 3 ∨ c = -1)) : Builtin.Range.small a b c = true := by
  have F : ∀ x : Int, -10000000 ≤ x → x ≤ 10000000 → Builtin.Range.rangeFitsLong x = true := by
    intro x hx hy
    unfold Builtin.Range.rangeFitsLong
    simp
    omega
  have hR : 0 ≤ Builtin.Range.rangeSize a b c ∧ Builtin.Range.rangeSize a b c ≤ 2000001 := by
    unfold Builtin.Range.rangeSize
    rcases h5 with rfl | rfl | rfl | rfl <;> simp <;> split <;> omega
  unfold Builtin.Range.small
  rw [F a (by omega) (by omega), F b (by omega) (by omega), F c (by omega) (by omega), F _ (by omega) (by omega)]
  simp only [Bool.true_and, Bool.or_eq_true]
  refine .inr ?_
  split
  · exact F _ (by omega) (by omega)
  · exact F _ (by omega) (by omega)
section
variable {w : World} {A : Around} {E : Value → Shared → Prop} {s : Shared} {env : Env} {h₀ : Heap} {body : List Stmt} {Q : Flow → Shared → Prop} {target : Expr}

/-- a turn's step, as turnsAt asks it, for items that a relation tells -/
abbrev StepT (w : World) (A : Around) (s : Shared) (env : Env) (h₀ : Heap) (target : Expr) (body : List Stmt) (Q : Flow → Shared → Prop) (E : Value → Shared → Prop) (J : Nat → (Str → Option Value) → List (Addr × Obj) → Prop) (i : Nat) (v : Value) (h₁ : Heap) : Prop :=
  ∀ m₁ news₁ tk₁ own, J i m₁ news₁ → Apart own news₁ → (∀ q ∈ own, h₁.get? q.1 = some q.2) → Fr h₀ env.locals h₁ m₁ → News h₀ env.locals h₁ (own ++ news₁) →
      wpAny (model PySem.Challenge.rw_xp0024_01.row.prog w) A (assign target env v) (fun _ s₃ => wpAny (model PySem.Challenge.rw_xp0024_01.row.prog w) A (execs body env)
        (EndS h₀ env.locals own (J (i + 1)) { s with heap := h₁, toks := tk₁ } (fun v s' => Q (.ret v) s') fun s' => Q .next s') E s₃) E { s with heap := h₁, toks := tk₁ }

theorem oneAt {io : Obj} {axs : List Addr} {n : Nat} {P Md : Nat → Value → Heap → Prop} {St : Nat → Heap → Prop} {m : Str → Option Value} {news : List (Addr × Obj)}
    (W : KTurns PySem.Challenge.rw_xp0024_01.row.prog w A target s.heap.objs.size (s.heap.objs.size :: axs) [s.heap.objs.size] n P Md St)
    (live : ∀ i h, St i h → ∀ b ∈ s.heap.objs.size :: axs, ∃ o, h.get? b = some o)
    (F : Fr h₀ env.locals s.heap m) (N : News h₀ env.locals s.heap news) (hax : ∀ a ∈ axs, a ≠ env.locals ∧ ∀ p ∈ news, p.1 ≠ a) (hst : St 0 (s.heap.push io))
    (J : Nat → (Str → Option Value) → List (Addr × Obj) → Prop) (h0 : J 0 m news)
    (step : ∀ i v h₁, i < n → P i v h₁ → StepT w A s env h₀ target body Q E J i v h₁)
    (done : ∀ h' tk m' news', Fr h₀ env.locals h' m' → News h₀ env.locals h' news' → J n m' news' → Q .next { s with heap := h', toks := tk }) :
    TurnsAt PySem.Challenge.rw_xp0024_01.row.prog w A h₀ env target body Q E (.ref s.heap.objs.size) { s with heap := s.heap.push io } := by
  refine turnsAt (s := { s with heap := _ }) W live ?_ ?_ hst (F.push _) (fun p hp => ⟨Heap.get?_push_of_some _ (N p hp).1, (N p hp).2⟩) ?_ J h0 ?_ ?_
  · intro hb
    rcases List.mem_cons.mp hb with e | hb
    · exact absurd F.ns.lt (e ▸ Nat.lt_irrefl _)
    · exact (hax _ hb).1 rfl
  · intro b hb
    rw [List.mem_singleton.mp hb]
    exact next_is_new F
  · intro p hp hb
    rcases List.mem_cons.mp hb with e | hb
    · exact absurd (Heap.lt_size (N p hp).1) (e ▸ Nat.lt_irrefl _)
    · exact (hax _ hb).2 p hp rfl
  · intro i v m₁ news₁ h₁ tk₁ own hi hP hJ hap hown F₁ N₁
    exact step i v h₁ hi hP m₁ news₁ tk₁ own hJ hap hown F₁ N₁
  · exact done

theorem flat_at {kvs : List (Int × Value)} {D : List (Int × Int)} (hf : FlatPairs PyData.int kvs (enc D)) {i : Nat} {k : Int} {x : Value} (hx : kvs[i]? = some (k, x)) : ∃ v u, D[i]? = some (k, v) ∧ x = .int v u := by
  obtain ⟨dv, hdv, hfl⟩ := hf.at hx
  unfold enc at hdv
  rw [List.getElem?_map] at hdv
  cases hq : D[i]? with
  | none => rw [hq] at hdv; cases hdv
  | some p =>
    obtain ⟨pk, pv⟩ := p
    rw [hq] at hdv
    simp only [Option.map_some, Option.some.injEq, Prod.mk.injEq, PyData.int.injEq] at hdv
    obtain ⟨rfl, rfl⟩ := hdv
    obtain ⟨u, rfl⟩ := hfl.int_inv
    exact ⟨_, u, rfl, rfl⟩

theorem valuesAt {d vw : Addr} {D : List (Int × Int)} {m : Str → Option Value} {news : List (Addr × Obj)} (hh : A.handled = none)
    (F : Fr h₀ env.locals s.heap m) (N : News h₀ env.locals s.heap news) (hvw : s.heap.IsValuesView vw d) (hD : IsD w s.heap d D) (hdL : d ≠ env.locals) (hdn : ∀ p ∈ news, p.1 ≠ d)
    (J : Nat → (Str → Option Value) → List (Addr × Obj) → Prop) (h0 : J 0 m news)
    (step : ∀ i k v u h₁, D[i]? = some (k, v) → StepT w A s env h₀ target body Q E J i (.int v u) h₁)
    (done : ∀ h' tk m' news', Fr h₀ env.locals h' m' → News h₀ env.locals h' news' → J D.length m' news' → Q .next { s with heap := h', toks := tk }) :
    wpAny (model PySem.Challenge.rw_xp0024_01.row.prog w) A (pyIter (.ref vw)) (fun it s₂ => TurnsAt PySem.Challenge.rw_xp0024_01.row.prog w A h₀ env target body Q E it s₂) E s := by
  obtain ⟨_, kvs, hdo, hf⟩ := hD
  obtain ⟨ep, hat⟩ := hdo.dictAt
  have hne : d ≠ s.heap.objs.size := Nat.ne_of_lt hat.lt_size
  have hlen : D.length = kvs.length := by have := hf.length; unfold enc at this; rw [List.length_map] at this; exact this
  refine wpAny_pyIter_values hvw hat ?_
  refine oneAt (axs := [d]) (KTurns.ofWalks (Walks.dictValues (knd := IK w) hh s.heap.objs.size d hne kvs ep) fun i v s Q E st q => letGo_valiter st.1 q) ?_ F N (fun a ha => by rw [List.mem_singleton.mp ha]; exact ⟨hdL, hdn⟩) ⟨⟨_, Heap.get?_push_size _ rfl, rfl, rfl⟩, hat.push _⟩ J h0 ?_ (hlen ▸ done)
  · rintro i h ⟨⟨oi, he, _⟩, hm⟩ b hb
    rcases List.mem_cons.mp hb with rfl | hb
    · exact ⟨_, he⟩
    · obtain ⟨o, _, ho, _⟩ := hm
      exact ⟨o, List.mem_singleton.mp hb ▸ ho⟩
  · rintro i v h₁ hi ⟨k, hx⟩
    obtain ⟨v', u, hD', rfl⟩ := flat_at hf hx
    exact step i k v' u h₁ hD'

theorem keysAt {d : Addr} {D : List (Int × Int)} {m : Str → Option Value} {news : List (Addr × Obj)} (hh : A.handled = none)
    (F : Fr h₀ env.locals s.heap m) (N : News h₀ env.locals s.heap news) (hD : IsD w s.heap d D) (hdL : d ≠ env.locals) (hdn : ∀ p ∈ news, p.1 ≠ d)
    (J : Nat → (Str → Option Value) → List (Addr × Obj) → Prop) (h0 : J 0 m news)
    (step : ∀ i k v u h₁, D[i]? = some (k, v) → StepT w A s env h₀ target body Q E J i (.int k u) h₁)
    (done : ∀ h' tk m' news', Fr h₀ env.locals h' m' → News h₀ env.locals h' news' → J D.length m' news' → Q .next { s with heap := h', toks := tk }) :
    wpAny (model PySem.Challenge.rw_xp0024_01.row.prog w) A (pyIter (.ref d)) (fun it s₂ => TurnsAt PySem.Challenge.rw_xp0024_01.row.prog w A h₀ env target body Q E it s₂) E s := by
  obtain ⟨lo, kvs, hdo, hf⟩ := hD
  obtain ⟨ep, hat⟩ := hdo.dictAt
  have hne : d ≠ s.heap.objs.size := Nat.ne_of_lt hat.lt_size
  have hlen : D.length = kvs.length := by have := hf.length; unfold enc at this; rw [List.length_map] at this; exact this
  refine wpAny_pyIter_dict lo hat ?_
  refine oneAt (axs := [d]) (KTurns.ofWalks (Walks.dictKeys (knd := IK w) hh s.heap.objs.size d hne kvs ep) fun i v s Q E st q => letGo_keyiter st.1 q) ?_ F N (fun a ha => by rw [List.mem_singleton.mp ha]; exact ⟨hdL, hdn⟩) ⟨⟨_, Heap.get?_push_size _ rfl, rfl, rfl⟩, hat.push _⟩ J h0 ?_ (hlen ▸ done)
  · rintro i h ⟨⟨oi, he, _⟩, hm⟩ b hb
    rcases List.mem_cons.mp hb with rfl | hb
    · exact ⟨_, he⟩
    · obtain ⟨o, _, ho, _⟩ := hm
      exact ⟨o, List.mem_singleton.mp hb ▸ ho⟩
  · rintro i v h₁ hi ⟨k, x, hx, hk⟩
    obtain ⟨v', u, hD', rfl⟩ := flat_at hf hx
    obtain ⟨t, rfl⟩ := Value.isInt_shape (k := k) hk
    exact step i k v' t h₁ hD'

theorem listAt {l : Addr} {vs : List Value} {m : Str → Option Value} {news : List (Addr × Obj)} (hh : A.handled = none)
    (F : Fr h₀ env.locals s.heap m) (N : News h₀ env.locals s.heap news) (hL : s.heap.IsList l vs.toArray) (hdL : l ≠ env.locals) (hdn : ∀ p ∈ news, p.1 ≠ l)
    (J : Nat → (Str → Option Value) → List (Addr × Obj) → Prop) (h0 : J 0 m news)
    (step : ∀ i v h₁, vs[i]? = some v → StepT w A s env h₀ target body Q E J i v h₁)
    (done : ∀ h' tk m' news', Fr h₀ env.locals h' m' → News h₀ env.locals h' news' → J vs.length m' news' → Q .next { s with heap := h', toks := tk }) :
    wpAny (model PySem.Challenge.rw_xp0024_01.row.prog w) A (pyIter (.ref l)) (fun it s₂ => TurnsAt PySem.Challenge.rw_xp0024_01.row.prog w A h₀ env target body Q E it s₂) E s := by
  obtain ⟨ol, hol, _⟩ := id hL
  have hne : l ≠ s.heap.objs.size := Nat.ne_of_lt (Heap.lt_size hol)
  refine wpAny_pyIter_list hL ?_
  refine oneAt (axs := [l]) (KTurns.ofWalks (Walks.list hh s.heap.objs.size l hne vs.toArray) fun i v s Q E st q => letGo_listiter st.1 q) ?_ F N (fun a ha => by rw [List.mem_singleton.mp ha]; exact ⟨hdL, hdn⟩) ⟨⟨_, Heap.get?_push_size _ rfl, rfl, rfl⟩, hL.at fun o e => Heap.get?_push_of_some _ e⟩ J h0 ?_ (by rw [List.size_toArray]; exact done)
  · rintro i h ⟨⟨oi, he, _⟩, ⟨o, ho, _⟩⟩ b hb
    rcases List.mem_cons.mp hb with rfl | hb
    · exact ⟨_, he⟩
    · exact ⟨o, List.mem_singleton.mp hb ▸ ho⟩
  · rintro i v h₁ hi hx
    exact step i v h₁ (by simpa using hx)

theorem tupAt {l : Addr} {vs : List Value} {m : Str → Option Value} {news : List (Addr × Obj)} (hh : A.handled = none)
    (F : Fr h₀ env.locals s.heap m) (N : News h₀ env.locals s.heap news) (hL : IsTup s.heap l vs.toArray) (hdL : l ≠ env.locals) (hdn : ∀ p ∈ news, p.1 ≠ l)
    (J : Nat → (Str → Option Value) → List (Addr × Obj) → Prop) (h0 : J 0 m news)
    (step : ∀ i v h₁, vs[i]? = some v → StepT w A s env h₀ target body Q E J i v h₁)
    (done : ∀ h' tk m' news', Fr h₀ env.locals h' m' → News h₀ env.locals h' news' → J vs.length m' news' → Q .next { s with heap := h', toks := tk }) :
    wpAny (model PySem.Challenge.rw_xp0024_01.row.prog w) A (pyIter (.ref l)) (fun it s₂ => TurnsAt PySem.Challenge.rw_xp0024_01.row.prog w A h₀ env target body Q E it s₂) E s := by
  obtain ⟨ol, hol, _⟩ := id hL
  have hne : l ≠ s.heap.objs.size := Nat.ne_of_lt (Heap.lt_size hol)
  refine wpAny_pyIter_tuple hL ?_
  refine oneAt (axs := [l]) (KTurns.ofWalks (Walks.tuple hh s.heap.objs.size l hne vs.toArray) fun i v s Q E st q => letGo_tupleiter st.1 q) ?_ F N (fun a ha => by rw [List.mem_singleton.mp ha]; exact ⟨hdL, hdn⟩) ⟨⟨_, Heap.get?_push_size _ rfl, rfl, rfl⟩, IsTup.keeps hL fun b o e => Heap.get?_push_of_some _ e⟩ J h0 ?_ (by rw [List.size_toArray]; exact done)
  · rintro i h ⟨⟨oi, he, _⟩, ⟨o, ho, _⟩⟩ b hb
    rcases List.mem_cons.mp hb with rfl | hb
    · exact ⟨_, he⟩
    · exact ⟨o, List.mem_singleton.mp hb ▸ ho⟩
  · rintro i v h₁ hi hx
    exact step i v h₁ (by simpa using hx)

/-- a range whose size is n: from a by c -/
theorem rangeAt {r : Addr} {a b c : Int} {t u v : Tok} {n : Nat} {x : Str} {px : Pos} {m : Str → Option Value} {news : List (Addr × Obj)} (hh : A.handled = none)
    (F : Fr h₀ env.locals s.heap m) (N : News h₀ env.locals s.heap news) (hr : IsRange s.heap r a b c t u v) (hsmall : Builtin.Range.small a b c = true) (hn : Builtin.Range.rangeSize a b c = (n : Int))
    (J : Nat → (Str → Option Value) → List (Addr × Obj) → Prop) (h0 : J 0 m news)
    (step : ∀ (i : Nat) t h₁, i < n → StepT w A s env h₀ (.Name x px) body Q E J i (.int (a + i * c) t) h₁)
    (done : ∀ h' tk m' news', Fr h₀ env.locals h' m' → News h₀ env.locals h' news' → J n m' news' → Q .next { s with heap := h', toks := tk }) :
    wpAny (model PySem.Challenge.rw_xp0024_01.row.prog w) A (pyIter (.ref r)) (fun it s₂ => TurnsAt PySem.Challenge.rw_xp0024_01.row.prog w A h₀ env (.Name x px) body Q E it s₂) E s := by
  refine wpAny_pyIter_range hr hsmall ?_
  refine oneAt (axs := []) (KTurns.ofWalks (Walks.range hh s.heap.objs.size a c n) fun i v s Q E st q => wpAny_of_eq (rfl : letOwnedTupleGo (.Name x px) (.ref _) v = pure ()) q) ?_ F N (fun _ ha => nomatch ha) (by show IsRangeIter _ _ _ _ _; rw [hn]; simpa using Heap.get?_push_size _ rfl) J h0 ?_ done
  · rintro i h st b hb
    rcases List.mem_cons.mp hb with rfl | hb
    · exact ⟨_, st⟩
    · cases hb
  · rintro i v h₁ hi ⟨t, rfl⟩
    exact step i t h₁ hi
end
end Mine
end
section
open PySem PySem.W PyProof.Rows PySem.Calls PySem.Spec PyProof.V
set_option maxRecDepth 100000
set_option maxHeartbeats 8000000
namespace Mine
section
variable {w : World} {A : Around} {E : Value → Shared → Prop} {s : Shared} {env : Env} {h₀ : Heap} {body : List Stmt} {Q : Flow → Shared → Prop}
theorem zipAt {elts : List Expr} {kk : Nat} {pos : Pos} {l1 l2 : Addr} {xs ys : List Value} {m : Str → Option Value} {news : List (Addr × Obj)} (hh : A.handled = none)
    (F : Fr h₀ env.locals s.heap m) (N : News h₀ env.locals s.heap news) (hl1 : s.heap.IsList l1 xs.toArray) (hl2 : s.heap.IsList l2 ys.toArray)
    (h1L : l1 ≠ env.locals) (h2L : l2 ≠ env.locals) (h1n : ∀ p ∈ news, p.1 ≠ l1) (h2n : ∀ p ∈ news, p.1 ≠ l2)
    (J : Nat → (Str → Option Value) → List (Addr × Obj) → Prop) (h0 : J 0 m news)
    (step : ∀ i T x y tk₁ h₁, xs[i]? = some x → ys[i]? = some y → IsTup h₁ T #[x, y] → StepT w A { s with toks := tk₁ } env h₀ (.Tuple elts kk pos) body Q E J i (.ref T) h₁)
    (done : ∀ h' tk m' news', Fr h₀ env.locals h' m' → News h₀ env.locals h' news' → J (min xs.length ys.length) m' news' → Q .next { s with heap := h', toks := tk }) :
    wpAny (model PySem.Challenge.rw_xp0024_01.row.prog w) A (call (.type "zip") [.ref l1, .ref l2]) (fun xv s₁ => wpAny (model PySem.Challenge.rw_xp0024_01.row.prog w) A (pyIter xv) (fun it s₂ => TurnsAt PySem.Challenge.rw_xp0024_01.row.prog w A h₀ env (.Tuple elts kk pos) body Q E it s₂) E s₁) E s := by
  obtain ⟨lo1, hg1, _⟩ := id hl1
  obtain ⟨lo2, hg2, _⟩ := id hl2
  have hlt1 : l1 < s.heap.objs.size := Heap.lt_size hg1
  have hlt2 : l2 < s.heap.objs.size := Heap.lt_size hg2
  have hLs : env.locals < s.heap.objs.size := F.ns.lt
  have D : ZipApart (s.heap.objs.size + 4) (s.heap.objs.size + 2) (s.heap.objs.size + 3) s.heap.objs.size (s.heap.objs.size + 1) l1 l2 := ktu_apart _ _ _ hlt1 hlt2
  refine call_zip_2 hl1 hl2 fun h' hz hTI hTO hi1 hi2 hsz hk => ?_
  refine wpAny_pyIter_zip hz ?_
  refine turnsAt (s := { s with heap := h' }) (KTurns.ofWalksU (WalksT.zip2 hh _ _ _ _ _ _ _ D xs.toArray ys.toArray).toU) ?_ ?_ ?_ ⟨hz, hTI, ⟨_, _, hTO⟩, hi1, hi2, hl1.at fun o e => hk l1 o e, hl2.at fun o e => hk l2 o e⟩ (Fr.later F hk) (News.later N hk) ?_ J h0 ?_ ?_
  · rintro i h ⟨hz, hTI, ⟨a, b, hTO⟩, ⟨o1, ho1, hc1, _⟩, ⟨o2, ho2, hc2, _⟩, ⟨o3, ho3, _⟩, ⟨o4, ho4, _⟩⟩ b hb
    have hb' : b = s.heap.objs.size + 4 ∨ b = s.heap.objs.size + 2 ∨ b = s.heap.objs.size + 3 ∨ b = s.heap.objs.size ∨ b = s.heap.objs.size + 1 ∨ b = l1 ∨ b = l2 := by simpa using hb
    rcases hb' with rfl | rfl | rfl | rfl | rfl | rfl | rfl
    · exact ⟨_, hz⟩
    · exact ⟨_, hTI⟩
    · exact ⟨_, hTO⟩
    · exact ⟨_, ho1⟩
    · exact ⟨_, ho2⟩
    · exact ⟨_, ho3⟩
    · exact ⟨_, ho4⟩
  · intro hI'
    have hb' : env.locals = s.heap.objs.size + 4 ∨ env.locals = s.heap.objs.size + 2 ∨ env.locals = s.heap.objs.size + 3 ∨ env.locals = s.heap.objs.size ∨ env.locals = s.heap.objs.size + 1 ∨ env.locals = l1 ∨ env.locals = l2 := by simpa using hI'
    rcases hb' with e | e | e | e | e | e | e
    · exact ktu_ne 4 hLs e
    · exact ktu_ne 2 hLs e
    · exact ktu_ne 3 hLs e
    · exact Nat.ne_of_lt hLs e
    · exact ktu_ne 1 hLs e
    · exact h1L e.symm
    · exact h2L e.symm
  · intro b hb
    have hb' : b = s.heap.objs.size + 4 ∨ b = s.heap.objs.size + 3 ∨ b = s.heap.objs.size ∨ b = s.heap.objs.size + 1 := by simpa using hb
    rcases hb' with rfl | rfl | rfl | rfl
    · exact ktu_new F (Nat.le_add_right _ _)
    · exact ktu_new F (Nat.le_add_right _ _)
    · exact ktu_new F (Nat.le_refl _)
    · exact ktu_new F (Nat.le_add_right _ _)
  · intro p hp hI'
    have hb' : p.1 = s.heap.objs.size + 4 ∨ p.1 = s.heap.objs.size + 2 ∨ p.1 = s.heap.objs.size + 3 ∨ p.1 = s.heap.objs.size ∨ p.1 = s.heap.objs.size + 1 ∨ p.1 = l1 ∨ p.1 = l2 := by simpa using hI'
    have hlp := Heap.lt_size (N p hp).1
    rcases hb' with e | e | e | e | e | e | e
    · exact ktu_ne 4 hlp e
    · exact ktu_ne 2 hlp e
    · exact ktu_ne 3 hlp e
    · exact Nat.ne_of_lt hlp e
    · exact ktu_ne 1 hlp e
    · exact h1n p hp e
    · exact h2n p hp e
  · rintro i v m₁ news₁ h₁ tk₁ own hi ⟨T, vals, rfl, ⟨x, y, hx, hy, rfl⟩, hT⟩ hJ hap hown F₁ N₁
    exact step i T x y tk₁ h₁ (by simpa using hx) (by simpa using hy) hT m₁ news₁ tk₁ own hJ hap hown F₁ N₁
  · intro h2 tk m' news' F' N' hJ
    exact done h2 tk m' news' F' N' (by simpa using hJ)

theorem enumAt {elts : List Expr} {kk : Nat} {pos : Pos} {l : Addr} {xs : List Value} {m : Str → Option Value} {news : List (Addr × Obj)} (hh : A.handled = none)
    (F : Fr h₀ env.locals s.heap m) (N : News h₀ env.locals s.heap news) (hl : s.heap.IsList l xs.toArray) (hL : l ≠ env.locals) (hn : ∀ p ∈ news, p.1 ≠ l)
    (J : Nat → (Str → Option Value) → List (Addr × Obj) → Prop) (h0 : J 0 m news)
    (step : ∀ (i : Nat) T x t h₁, xs[i]? = some x → IsTup h₁ T #[.int i t, x] → StepT w A s env h₀ (.Tuple elts kk pos) body Q E J i (.ref T) h₁)
    (done : ∀ h' tk m' news', Fr h₀ env.locals h' m' → News h₀ env.locals h' news' → J xs.length m' news' → Q .next { s with heap := h', toks := tk }) :
    wpAny (model PySem.Challenge.rw_xp0024_01.row.prog w) A (call (.type "enumerate") [.ref l]) (fun xv s₁ => wpAny (model PySem.Challenge.rw_xp0024_01.row.prog w) A (pyIter xv) (fun it s₂ => TurnsAt PySem.Challenge.rw_xp0024_01.row.prog w A h₀ env (.Tuple elts kk pos) body Q E it s₂) E s₁) E s := by
  obtain ⟨lo, hg, _⟩ := id hl
  have hlt : l < s.heap.objs.size := Heap.lt_size hg
  have hLs : env.locals < s.heap.objs.size := F.ns.lt
  refine call_enumerate_list hl fun h' hE hI hsz hk => ?_
  refine wpAny_pyIter_enum hE ?_
  refine turnsAt (s := { s with heap := h' }) (KTurns.ofWalksU (WalksT.enumerate hh (s.heap.objs.size + 1) s.heap.objs.size l (Nat.succ_ne_self _) (ktu_ne 1 hlt) (Nat.ne_of_lt hlt) xs.toArray).toU) ?_ ?_ ?_ ⟨⟨.none, hE⟩, hI, hl.at fun o e => hk l o e⟩ (Fr.later F hk) (News.later N hk) ?_ J h0 ?_ ?_
  · rintro i h ⟨⟨old, he⟩, ⟨oi, hoi, hic, _⟩, ⟨o3, ho3, _⟩⟩ b hb
    have hb' : b = s.heap.objs.size + 1 ∨ b = s.heap.objs.size ∨ b = l := by simpa using hb
    rcases hb' with rfl | rfl | rfl
    · exact ⟨_, he⟩
    · exact ⟨_, hoi⟩
    · exact ⟨_, ho3⟩
  · intro hI'
    have hb' : env.locals = s.heap.objs.size + 1 ∨ env.locals = s.heap.objs.size ∨ env.locals = l := by simpa using hI'
    rcases hb' with e | e | e
    · exact ktu_ne 1 hLs e
    · exact Nat.ne_of_lt hLs e
    · exact hL e.symm
  · intro b hb
    have hb' : b = s.heap.objs.size + 1 ∨ b = s.heap.objs.size := by simpa using hb
    rcases hb' with rfl | rfl
    · exact ktu_new F (Nat.le_add_right _ _)
    · exact ktu_new F (Nat.le_refl _)
  · intro p hp hI'
    have hb' : p.1 = s.heap.objs.size + 1 ∨ p.1 = s.heap.objs.size ∨ p.1 = l := by simpa using hI'
    have hlp := Heap.lt_size (N p hp).1
    rcases hb' with e | e | e
    · exact ktu_ne 1 hlp e
    · exact Nat.ne_of_lt hlp e
    · exact hn p hp e
  · rintro i v m₁ news₁ h₁ tk₁ own hi ⟨T, vals, rfl, ⟨t, x, hx, rfl⟩, hT⟩ hJ hap hown F₁ N₁
    exact step i T x t h₁ (by simpa using hx) hT m₁ news₁ tk₁ own hJ hap hown F₁ N₁
  · intro h2 tk m' news' F' N' hJ
    exact done h2 tk m' news' F' N' (by simpa using hJ)
end
end Mine
end
section
open PySem PySem.W PyProof.Rows PySem.Calls PySem.Spec PyProof.V
set_option maxRecDepth 100000
set_option maxHeartbeats 8000000
namespace Mine
/-- fewer than 2^n in size -/
def Bd (n : Nat) (x : Int) : Prop := x.natAbs < 2 ^ n
theorem Bd.mono {n m : Nat} {x : Int} (h : Bd n x) (k : n ≤ m) : Bd m x := Nat.lt_of_lt_of_le h (Nat.pow_le_pow_right (by decide) k)
theorem Bd.mul {n m : Nat} {x y : Int} (h : Bd n x) (k : Bd m y) : Bd (n + m) (x * y) := by
  unfold Bd at *
  rw [Int.natAbs_mul, Nat.pow_add]
  exact Nat.mul_lt_mul_of_lt_of_le h (Nat.le_of_lt k) (Nat.lt_of_le_of_lt (Nat.zero_le _) k)
theorem Bd.add {n : Nat} {x y : Int} (h : Bd n x) (k : Bd n y) : Bd (n + 1) (x + y) := by
  unfold Bd at *
  rw [Nat.pow_succ]
  omega
theorem Bd.sub {n : Nat} {x y : Int} (h : Bd n x) (k : Bd n y) : Bd (n + 1) (x - y) := by
  unfold Bd at *
  rw [Nat.pow_succ]
  omega
theorem Bd.one : Bd 1 1 := by unfold Bd; decide
theorem Bd.zero {n : Nat} : Bd n 0 := by unfold Bd; exact Nat.pow_pos (by decide)
theorem Bd.pow {n : Nat} {x : Int} (h : Bd n x) : ∀ k : Nat, Bd (n * k + 1) (x ^ k)
  | 0 => by rw [Int.pow_zero]; exact Bd.one.mono (by simp)
  | k + 1 => by
    rw [Int.pow_succ]
    exact ((Bd.pow h k).mul h).mono (by rw [Nat.mul_succ]; omega)
theorem Bd.bits {n : Nat} {x : Int} (h : Bd n x) : Builtin.Int.intBits x ≤ n := by
  unfold Builtin.Int.intBits
  split
  · exact Nat.zero_le _
  · rename_i hx
    have hx' : x.natAbs ≠ 0 := by
      intro e
      apply hx
      have : x = 0 := Int.natAbs_eq_zero.mp e
      simp [this]
    have := (Nat.log2_lt hx').mpr h
    omega
theorem Bd.mulOk {n m : Nat} {x y : Int} (h : Bd n x) (k : Bd m y) (hs : n + m ≤ 2 ^ 27) : IntMulOk x y := by
  have a := h.bits
  have b := k.bits
  unfold IntMulOk
  have : Builtin.Int.intTooBig (Builtin.Int.intBits x + Builtin.Int.intBits y) = false := by
    unfold Builtin.Int.intTooBig bitsLine
    exact decide_eq_false (by omega)
  rw [this, Bool.and_false]
  exact Bool.false_ne_true
theorem Bd.powOk {n : Nat} {x e : Int} (h : Bd n x) (he : e ≤ 9) (he0 : 0 ≤ e) (hs : n ≤ 2 ^ 20) : (Builtin.Int.intBits x : Int) * e ≤ 2 ^ 27 := by
  have a := h.bits
  have : (Builtin.Int.intBits x : Int) * e ≤ 2 ^ 20 * 9 := Int.mul_le_mul (by omega) he he0 (by decide)
  omega

def IL (h : Heap) (r : Addr) (xs : List Int) : Prop := ∃ vs, h.IsList r vs.toArray ∧ IntsAre vs xs
theorem IL.keeps {h h' : Heap} {r : Addr} {xs : List Int} (H : IL h r xs) (k : Keeps h h') : IL h' r xs := by
  obtain ⟨vs, hl, ha⟩ := H
  exact ⟨vs, hl.at fun o e => k _ o e, ha⟩
theorem gt_of {d : List (Int × Int)} (hn : (d.map (·.1)).Nodup) {i : Nat} {k v : Int} (h : d[i]? = some (k, v)) : gt d k = some v := by
  induction d generalizing i with
  | nil => simp at h
  | cons p r ih =>
    rw [List.map_cons, List.nodup_cons] at hn
    cases i with
    | zero => simp at h; subst h; simp [gt]
    | succ i =>
      have h' : r[i]? = some (k, v) := by simpa using h
      have hne : p.1 ≠ k := fun e => hn.1 (e ▸ List.mem_map.mpr ⟨(k, v), List.mem_of_getElem? h', rfl⟩)
      have := ih hn.2 h'
      simpa [gt, hne] using this
section
variable {prog : Program} {w : World} {A : Around} {E : Value → Shared → Prop} {s : Shared} {h₀ : Heap} {L r : Addr} {m : Str → Option Value} {pre post : List (Addr × Obj)} {vs : List Value} {n : Nat} {k : Int} {v : Value} {t : Tok}
/-- r[k] = v, r a list of the ledger -/
theorem setL {Q : Unit → Shared → Prop} (F : Fr h₀ L s.heap m) (N : News h₀ L s.heap (pre ++ (r, W.listOf vs.toArray n) :: post)) (a : ∀ p ∈ pre, p.1 ≠ r) (b : ∀ p ∈ post, p.1 ≠ r) (h0 : 0 ≤ k) (h1 : k < vs.length) (hfit : k < 2 ^ 63)
    (h : ∀ h', Fr h₀ L h' m → News h₀ L h' (pre ++ (r, W.listOf (vs.set k.toNat v).toArray n) :: post) → Q () { s with heap := h' }) :
    wpAny (model prog w) A (setItem (.ref r) (.int k t) v) Q E s := by
  have z := N (r, W.listOf vs.toArray n) (List.mem_append.mpr (.inr (.head _)))
  refine ki_setAt z.1 h0 hfit (by rw [List.size_toArray]; omega) (h _ (F.change (Heap.SameBut.update ..) z.2.1 z.2.2) (ki_turn _ N a b ?_ ?_))
  · show vs.toArray.setIfInBounds k.toNat v = (vs.set k.toNat v).toArray
    apply Array.toList_inj.mp
    simp
  · simp
end
end Mine
end
section
open PySem PySem.W PyProof.Rows PySem.Calls PySem.Spec PyProof.V
set_option maxRecDepth 100000
set_option maxHeartbeats 8000000
namespace Mine
/-- enter a def that has cells -/
theorem enterXC {prog : Program} {w : World} {A : Around} {s : Shared} {K : Frag} {mg mb : Str → Option Value} {R : Result → Shared → Prop} {p : Program} {loose : List Str}
    {name qual : Str} {params : Arguments} {body : List Stmt} {scope : Scope} {dV kV doc pm cdv ct oc : Value} {an od : Option Addr} {osl : Array (Option Value)} {f : Addr} {args : Args}
    (X : K.In s.heap) (T : TopRead p loose mg mb s.heap) (binds : List (Str × Value))
    (ho : K.lookup f = some ⟨oc, od, .func (fnOf name qual params body scope dV kV doc pm an cdv ct), osl⟩) (hcd : codeIn K cdv qual = true) (hroom : A.depth < recursionLimit)
    (hbind : bindArgs (fnOf name qual params body scope dV kV doc pm an cdv ct) args = pure binds)
    (hkind : ∀ n, ∀ x ∈ binds, scope.names.lookup x.1 = some .local ∨ (scope.names.lookup x.1 = some .cell ∧ ((cellsFrom n scope.names []).lookup x.1).isSome = true))
    (hnd : ((cellsFrom 0 scope.names []).map (·.1)).Nodup)
    (h : ∀ h₁ tk cells, Fr s.heap s.heap.objs.size h₁ (bindL (envOfC qual scope s.heap.objs.size f cdv).kindOf binds fun _ => none) → News s.heap s.heap.objs.size h₁ cells →
      CellsAre (bindC (envOfC qual scope s.heap.objs.size f cdv).kindOf binds fun _ => none) (cellsFrom (s.heap.objs.size + 1) scope.names []) cells →
      wpAny (model prog w) (A.deeper (envOfC qual scope s.heap.objs.size f cdv)) (execs body (envOfC qual scope s.heap.objs.size f cdv))
        (fun fl s' => R (.ok (.ret (match fl with | .ret v => v | _ => .none))) s') (fun _ _ => False)
        { s with heap := h₁, toks := tk })
    (hco : scope.isCoroutine = false) (hgen : scope.isGenerator = false) (hk : scope.kind = .function) : codeAny (model prog w) A (.call (.ref f) args) R s := by
  refine codeAny_call_function (fd := fnOf name qual params body scope dV kV doc pm an cdv ct) (body := body) hroom (X _ _ ho) rfl hco hgen rfl (codeRec_of X hcd) (BindsTo.of_eq hbind _ _ _ _ ?_)
  refine wpAny_newFunctionEnv_cells hk (hkind _) fun env' he s' x => ?_
  subst he
  refine ⟨(TopRead.nolimit T).keeps x.toInCall.keep, codeAny_func ?_⟩
  obtain ⟨h₁, tk, rfl, _⟩ := x.done
  obtain ⟨cells, NC, Y⟩ := Cl.news (h₀ := s.heap) (Nat.le_refl _) fun n c hm => ⟨x.cell n c (lookup_of_mem_nodup (cellsFrom_names scope.names 0 (s.heap.objs.size + 1) [] [] rfl ▸ hnd) hm), x.above n c hm⟩
  exact wpAny_mono (h h₁ tk cells ⟨x.toInCall.ns, x.toInCall.keep, Nat.le_refl _⟩ NC Y) (fun _ _ y => y) (fun _ _ y => y.elim)
end Mine
end
section
open PySem PySem.W PyProof.Rows PySem.Calls PySem.Spec PyProof.V PyProof.Rows.LCg
set_option maxRecDepth 100000
set_option maxHeartbeats 8000000
namespace Mine
section
variable {prog : Program} {w : World} {A : Around} {E : Value → Shared → Prop} {s : Shared} {env : Env} {h₀ : Heap} {target : Expr} {body : List Stmt} {Q : Flow → Shared → Prop}

theorem EndS.widen {h₀ : Heap} {L I : Addr} {o : Obj} {own : List (Addr × Obj)} {J : (Str → Option Value) → List (Addr × Obj) → Prop} {s₁ : Shared} {Qr : Value → Shared → Prop} {Qb : Shared → Prop} {f : Flow} {s₂ : Shared}
    (hall : ∀ p ∈ own, p = (I, o)) (h : EndS h₀ L [(I, o)] J s₁ Qr Qb f s₂) : EndS h₀ L own J s₁ Qr Qb f s₂ := by
  have fin : (∃ h' tk m₂ news₂, s₂ = { s₁ with heap := h', toks := tk } ∧ Fr h₀ L h' m₂ ∧ News h₀ L h' ([(I, o)] ++ news₂) ∧ Apart [(I, o)] news₂ ∧ J m₂ news₂) →
      ∃ h' tk m₂ news₂, s₂ = { s₁ with heap := h', toks := tk } ∧ Fr h₀ L h' m₂ ∧ News h₀ L h' (own ++ news₂) ∧ Apart own news₂ ∧ J m₂ news₂ := by
    rintro ⟨h', tk, m₂, news₂, e, F, N, ha, hJ⟩
    refine ⟨h', tk, m₂, news₂, e, F, fun p hp => ?_, fun q hq p hp => ?_, hJ⟩
    · rcases List.mem_append.mp hp with hp | hp
      · rw [hall p hp]; exact N _ (.head _)
      · exact N p (List.mem_append_right _ hp)
    · rw [hall q hq]; exact ha _ (.head _) p hp
  cases f with
  | ret v => exact h
  | brk => exact h
  | cont => exact fin h
  | next => exact fin h

/-- the iterator alone is the loop's own -/
theorem turnsAt1 {I : Addr} {axs : List Addr} {n : Nat} {P Md : Nat → Value → Heap → Prop} {St : Nat → Heap → Prop} {m : Str → Option Value} {news : List (Addr × Obj)} (W : KTurns prog w A target I (I :: axs) [I] n P Md St)
    (live : ∀ i h, St i h → ∃ o, h.get? I = some o)
    (hI : h₀.get? I = none) (hIL : I ≠ env.locals) (hax : ∀ a ∈ axs, (∃ o, h₀.get? a = some o) ∧ a ≠ env.locals) (hst : St 0 s.heap) (F : Fr h₀ env.locals s.heap m) (N : News h₀ env.locals s.heap news) (hfp : ∀ p ∈ news, p.1 ≠ I)
    (J : Nat → (Str → Option Value) → List (Addr × Obj) → Prop) (h0 : J 0 m news)
    (step : ∀ i v m₁ news₁ h₁ tk₁ o, i < n → P i v h₁ → J i m₁ news₁ → (∀ p ∈ news₁, p.1 ≠ I) → Fr h₀ env.locals h₁ m₁ → News h₀ env.locals h₁ ((I, o) :: news₁) →
      wpAny (model prog w) A (assign target env v) (fun _ s₃ => wpAny (model prog w) A (execs body env)
        (EndS h₀ env.locals [(I, o)] (J (i + 1)) { s with heap := h₁, toks := tk₁ } (fun v s' => Q (.ret v) s') fun s' => Q .next s') E s₃) E { s with heap := h₁, toks := tk₁ })
    (done : ∀ h' tk m' news', Fr h₀ env.locals h' m' → News h₀ env.locals h' news' → J n m' news' → Q .next { s with heap := h', toks := tk }) :
    TurnsAt prog w A h₀ env target body Q E (.ref I) s := by
  refine ⟨I, I :: axs, [I], n, P, Md, St, m, news, fun i m' news' => (∀ p ∈ news', p.1 ≠ I) ∧ J i m' news', rfl, W, ?_, fun b hb => by rw [List.mem_singleton.mp hb]; exact hI, fun p hp hb => hfp p hp (List.mem_singleton.mp hb), hst, F, N, ⟨hfp, h0⟩, ?_, fun h' tk m' news' F' N' _ hJ => done h' tk m' news' F' N' hJ.2⟩
  · intro hb
    rcases List.mem_cons.mp hb with e | hb
    · exact hIL e.symm
    · exact (hax _ hb).2 rfl
  rintro i v m₁ news₁ h₁ tk₁ own hi hP ⟨hf, hJ⟩ _ hsub hget hall hst₁ F₁ N₁
  obtain ⟨o, ho⟩ := live _ _ hst₁
  have hmem := hall I (.head _) hI o ho
  have hone : ∀ p ∈ own, p = (I, o) := by
    intro p hp
    have h1 := hsub p hp
    have e : p.1 = I := by
      rcases List.mem_cons.mp h1 with e | h1
      · exact e
      · obtain ⟨o', ho'⟩ := (hax _ h1).1
        have := (N₁ p (List.mem_append_left _ hp)).2.2
        rw [ho'] at this; cases this
    have h2 := hget p hp
    rw [e, ho] at h2
    exact Prod.ext e (Option.some.inj h2).symm
  refine wpAny_mono (step i v m₁ news₁ h₁ tk₁ o hi hP hJ hf F₁ ?_) (fun _ s₃ h₃ => wpAny_mono h₃ (fun f s₄ h₄ => ?_) fun _ _ x => x) fun _ _ x => x
  · intro p hp
    rcases List.mem_cons.mp hp with rfl | hp
    · exact N₁ _ (List.mem_append_left _ hmem)
    · exact N₁ p (List.mem_append_right _ hp)
  replace h₄ := EndS.widen hone h₄
  have fin : (∃ h' tk m₂ news₂, s₄ = { s with heap := h', toks := tk } ∧ Fr h₀ env.locals h' m₂ ∧ News h₀ env.locals h' (own ++ news₂) ∧ Apart own news₂ ∧ J (i + 1) m₂ news₂) →
      LoopStepU h₀ env.locals [I] own (fun m' news' => (∀ p ∈ news', p.1 ≠ I) ∧ J (i + 1) m' news') { s with heap := h₁, toks := tk₁ } .next s₄ := by
    rintro ⟨h', tk, m₂, news₂, rfl, F₂, N₂, ha, hJ₂⟩
    have hno : ∀ p ∈ news₂, p.1 ≠ I := fun p hp e => ha _ hmem p hp e.symm
    exact ⟨rfl, h', tk, m₂, news₂, rfl, F₂, N₂, fun p hp hb => hno p hp (List.mem_singleton.mp hb), hno, hJ₂⟩
  cases f with
  | ret v => exact h₄
  | brk => exact h₄
  | cont => exact fin h₄
  | next => exact fin h₄
end
section
variable {w : World} {A : Around} {E : Value → Shared → Prop} {s : Shared} {env : Env} {h₀ : Heap} {body : List Stmt} {Q : Flow → Shared → Prop} {target : Expr}
abbrev StepT1 (w : World) (A : Around) (s : Shared) (env : Env) (h₀ : Heap) (target : Expr) (body : List Stmt) (Q : Flow → Shared → Prop) (E : Value → Shared → Prop) (I : Addr) (J : Nat → (Str → Option Value) → List (Addr × Obj) → Prop) (i : Nat) (v : Value) (h₁ : Heap) : Prop :=
  ∀ m₁ news₁ tk₁ o, J i m₁ news₁ → (∀ p ∈ news₁, p.1 ≠ I) → Fr h₀ env.locals h₁ m₁ → News h₀ env.locals h₁ ((I, o) :: news₁) →
      wpAny (model PySem.Challenge.rw_xp0024_01.row.prog w) A (assign target env v) (fun _ s₃ => wpAny (model PySem.Challenge.rw_xp0024_01.row.prog w) A (execs body env)
        (EndS h₀ env.locals [(I, o)] (J (i + 1)) { s with heap := h₁, toks := tk₁ } (fun v s' => Q (.ret v) s') fun s' => Q .next s') E s₃) E { s with heap := h₁, toks := tk₁ }
theorem rangeAt1 {r : Addr} {a b c : Int} {t u v : Tok} {n : Nat} {x : Str} {px : Pos} {m : Str → Option Value} {news : List (Addr × Obj)} (hh : A.handled = none)
    (F : Fr h₀ env.locals s.heap m) (N : News h₀ env.locals s.heap news) (hr : IsRange s.heap r a b c t u v) (hsmall : Builtin.Range.small a b c = true) (hn : Builtin.Range.rangeSize a b c = (n : Int))
    (J : Nat → (Str → Option Value) → List (Addr × Obj) → Prop) (h0 : J 0 m news)
    (step : ∀ I, (∀ p ∈ news, p.1 < I) → ∀ (i : Nat) t h₁, i < n → StepT1 w A s env h₀ (.Name x px) body Q E I J i (.int (a + i * c) t) h₁)
    (done : ∀ h' tk m' news', Fr h₀ env.locals h' m' → News h₀ env.locals h' news' → J n m' news' → Q .next { s with heap := h', toks := tk }) :
    wpAny (model PySem.Challenge.rw_xp0024_01.row.prog w) A (pyIter (.ref r)) (fun it s₂ => TurnsAt PySem.Challenge.rw_xp0024_01.row.prog w A h₀ env (.Name x px) body Q E it s₂) E s := by
  refine wpAny_pyIter_range hr hsmall ?_
  refine turnsAt1 (s := { s with heap := _ }) (axs := []) (KTurns.ofWalks (Walks.range hh s.heap.objs.size a c n) fun i v s Q E st q => wpAny_of_eq (rfl : letOwnedTupleGo (.Name x px) (.ref _) v = pure ()) q) (fun i h st => ⟨_, st⟩) (next_is_new F) (Nat.ne_of_gt F.ns.lt) (fun _ ha => nomatch ha)
    (by show IsRangeIter _ _ _ _ _; rw [hn]; simpa using Heap.get?_push_size _ rfl) (F.push _) (fun p hp => ⟨Heap.get?_push_of_some _ (N p hp).1, (N p hp).2⟩) (fun p hp => Nat.ne_of_lt (Heap.lt_size (N p hp).1)) J h0 ?_ done
  rintro i v m₁ news₁ h₁ tk₁ o hi ⟨t, rfl⟩ hJ hf F₁ N₁
  exact step _ (fun p hp => Heap.lt_size (N p hp).1) i t h₁ hi m₁ news₁ tk₁ o hJ hf F₁ N₁
end
section
variable {prog : Program} {w : World} {A : Around} {h₀ : Heap} {L : Addr} {m : Str → Option Value} {env : Env} {elt : Expr} {x : Str} {scope : Scope} {cl : List (Str × Addr)} {s : Shared} {S : List (Addr × Obj) → Prop} {P : Nat → Value → Prop} {Fin : List Value → List (Addr × Obj) → Prop} {news : List (Addr × Obj)}
/-- what an element of a block leaves: its value, nothing else changed -/
def EltEnd (h₀ : Heap) (L : Addr) (m : Str → Option Value) (s₁ : Shared) (all : List (Addr × Obj)) (R : Value → Prop) (y : Value) (s₂ : Shared) : Prop :=
  ∃ h' tk, s₂ = { s₁ with heap := h', toks := tk } ∧ Fr h₀ L h' m ∧ News h₀ L h' all ∧ R y
theorem EltEnd.mk {s₁ : Shared} {all : List (Addr × Obj)} {R : Value → Prop} {y : Value} {h' : Heap} {tk : Nat} (F : Fr h₀ L h' m) (N : News h₀ L h' all) (r : R y) : EltEnd h₀ L m s₁ all R y { s₁ with heap := h', toks := tk } := ⟨h', tk, rfl, F, N, r⟩
theorem comp_from {n : Nat} (R : Nat → Value → Prop) (hS : S news) (step : ∀ i v ys I oI C oC D m₂ h tk (E' : Value → Shared → Prop), i < n → P i v → NsObj oC m₂ → m₂ x = some v → Fr h₀ L h m → News h₀ L h ((I, oI) :: (C, oC) :: (D, LCg.lst ys) :: news) → LCg.Off3 I C D news → ((@Ne Nat I C) ∧ (@Ne Nat I D) ∧ (@Ne Nat C D)) →
      wpAny (model prog w) A (eval elt (compEnvC scope cl C env)) (EltEnd h₀ L m { s with heap := h, toks := tk } ((I, oI) :: (C, oC) :: (D, LCg.lst ys) :: news) (R i)) E' { s with heap := h, toks := tk }) :
    ∀ (k i : Nat) (ys : List Value), i + k ≤ n → ys.length = i → (∀ j y, ys[j]? = some y → R j y) → (∀ zs : List Value, zs.length = i + k → (∀ j y, zs[j]? = some y → R j y) → Fin zs news) → LCg.CompRest prog w A h₀ L m env elt x scope cl s S P Fin k i ys news
  | 0, i, ys, hn, hl, hr, fin => LCg.CompRest.zero (fin ys hl hr)
  | k + 1, i, ys, hn, hl, hr, fin => by
    refine LCg.CompRest.succ fun v I oI C oC D m₂ h tk E' hP hC hx F N off hne => ?_
    refine wpAny_mono (step i v ys I oI C oC D m₂ h tk E' (by omega) hP hC hx F N off hne) (fun y s₂ hy => ?_) fun _ _ e => e
    obtain ⟨h', tk', rfl, F', N', hR⟩ := hy
    refine ⟨h', tk', news, rfl, F', N', off, hS, comp_from R hS step k (i + 1) (ys ++ [y]) (by omega) (by rw [List.length_append, hl]; rfl) ?_ fun zs hz => fin zs (by omega)⟩
    intro j z hz
    rw [List.getElem?_append] at hz
    split at hz
    · exact hr j z hz
    · rename_i hj
      have : j - ys.length = 0 := by
        cases e : j - ys.length with
        | zero => rfl
        | succ q => rw [e] at hz; cases hz
      rw [this] at hz
      have hji : j = i := by omega
      rw [hji]
      exact (Option.some.inj hz) ▸ hR
theorem comp_pure {n : Nat} (R : Nat → Value → Prop) (hS : S news) (step : ∀ i v ys I oI C oC D m₂ h tk (E' : Value → Shared → Prop), i < n → P i v → NsObj oC m₂ → m₂ x = some v → Fr h₀ L h m → News h₀ L h ((I, oI) :: (C, oC) :: (D, LCg.lst ys) :: news) → LCg.Off3 I C D news → ((@Ne Nat I C) ∧ (@Ne Nat I D) ∧ (@Ne Nat C D)) →
      wpAny (model prog w) A (eval elt (compEnvC scope cl C env)) (EltEnd h₀ L m { s with heap := h, toks := tk } ((I, oI) :: (C, oC) :: (D, LCg.lst ys) :: news) (R i)) E' { s with heap := h, toks := tk })
    (fin : ∀ zs : List Value, zs.length = n → (∀ j y, zs[j]? = some y → R j y) → Fin zs news) : LCg.CompRest prog w A h₀ L m env elt x scope cl s S P Fin n 0 [] news :=
  comp_from R hS step n 0 [] (by omega) rfl (fun j y h => by simp at h) (fun zs hz => fin zs (by omega))
end
section
variable {M : Model} {A : Around} {E : Value → Shared → Prop} {s : Shared} {h₀ : Heap} {L D c : Addr} {m : Str → Option Value} {pre post : List (Addr × Obj)}
/-- a cell of the ledger is written -/
theorem stCell {cn : Str} {cs : Scope} {a : Addr} {ccd : Value} {cl : List (Str × Addr)} {x : Str} {o : Obj} {v₀ : Option Value} {v : Value} {Q : Unit → Shared → Prop} (F : Fr h₀ L s.heap m) (N : News h₀ L s.heap (pre ++ (c, o) :: post)) (hc : cl.lookup x = some c) (hd : o.data = .cell v₀) (h1 : ∀ p ∈ pre, p.1 ≠ c) (h2 : ∀ p ∈ post, p.1 ≠ c)
    (h : ∀ h' o', Fr h₀ L h' m → News h₀ L h' (pre ++ (c, o') :: post) → o'.data = .cell (some v) → Q () { s with heap := h' })
    (hk : cs.kind = .function) (hx : (envX cn cs L a ccd cl).kindOf x = some .cell) : wpAny M A (storeName (envX cn cs L a ccd cl) x v) Q E s := by
  have hmem := N (c, o) (List.mem_append_right _ (.head _))
  refine wpAny_storeName_cell hk hx hc ⟨o, hmem.1, hd⟩ fun h' hv hs => ?_
  obtain ⟨o', ho', hd'⟩ := hv
  refine h h' o' ⟨F.ns.sameBut hs (Ne.symm hmem.2.1), fun b ob e => (hs.2 b (fun q => ?_)).trans (F.keep b ob e), F.above⟩ (N.setAt h1 h2 hs ho') hd'
  rw [q, hmem.2.2] at e; cases e
end
section
variable {prog : Program} {w : World} {A : Around} {E : Value → Shared → Prop} {s : Shared} {h₀ : Heap} {L D : Addr} {m : Str → Option Value} {pre post : List (Addr × Obj)}
theorem appL {its : Array Value} {n : Nat} {x : Value} {Q : Value → Shared → Prop} (F : Fr h₀ L s.heap m) (N : News h₀ L s.heap (pre ++ (D, W.listOf its n) :: post)) (a : ∀ p ∈ pre, p.1 ≠ D) (b : ∀ p ∈ post, p.1 ≠ D) (hsz : its.size ≤ 1000)
    (h : ∀ h', Fr h₀ L h' m → News h₀ L h' (pre ++ (D, W.listOf (its.push x) (n + 1)) :: post) → Q .none { s with heap := h' }) : wpAny (model prog w) A (call (.builtin "list.append") [.ref D, x]) Q E s := by
  have z := N (D, W.listOf its n) (List.mem_append.mpr (.inr (.head _)))
  exact append_at (hsz := Nat.le_trans hsz (by decide)) z.1 fun h' hs ho' => h h' (F.change hs z.2.1 z.2.2) (news_set N a b hs ho')
end
theorem ints_of {vs : List Value} {ns : List Int} (hl : vs.length = ns.length) (h : ∀ (j : Nat) (y : Value), vs[j]? = some y → ∃ t, y = .int (ns.getD j 0) t) : IntsAre vs ns := by
  induction vs generalizing ns with
  | nil => cases ns with
    | nil => exact .nil
    | cons a r => simp at hl
  | cons v r ih => cases ns with
    | nil => simp at hl
    | cons a q =>
      obtain ⟨t, e⟩ := h 0 v rfl
      subst e
      exact .cons _ _ (ih (by simpa using hl) fun j y hy => by simpa using h (j + 1) y (by simpa using hy))
end Mine
end
section
open PySem PySem.W PyProof.Rows PySem.Calls PySem.Spec PyProof.V PyProof.Rows.LCg
set_option maxRecDepth 100000
set_option maxHeartbeats 8000000
namespace Mine
section
variable {prog : Program} {w : World} {A : Around} {E : Value → Shared → Prop} {s : Shared} {h₀ : Heap} {L : Addr} {m : Str → Option Value} {env : Env}
/-- a block over a range, by any step -/
def SrcRg (prog : Program) (w : World) (A : Around) (h₀ : Heap) (L : Addr) (m : Str → Option Value) (env : Env) (elt : Expr) (x : Str) (scope : Scope) (cl : List (Str × Addr)) (Fin : Shared → List Value → List (Addr × Obj) → Prop) (xv : Value) (s₁ : Shared) : Prop :=
  ∃ r a b c t u v n news, xv = .ref r ∧ A.handled = none ∧ Fr h₀ L s₁.heap m ∧ News h₀ L s₁.heap news ∧ IsRange s₁.heap r a b c t u v ∧ Builtin.Range.small a b c = true ∧ Builtin.Range.rangeSize a b c = ((n : Nat) : Int) ∧ n ≤ sizeLine ∧
    ∀ g, CompRest prog w A h₀ L m env elt x scope cl { s₁ with heap := g } (fun _ => True) (fun i v => ∃ t, v = .int (a + (i : Int) * c) t) (Fin { s₁ with heap := g }) n 0 [] news
theorem SrcRg.mk {elt : Expr} {x : Str} {scope : Scope} {cl : List (Str × Addr)} {Fin : Shared → List Value → List (Addr × Obj) → Prop} {r : Addr} {a b c : Int} {t u v : Tok} {n : Nat} {news : List (Addr × Obj)} {s₁ : Shared}
    (hh : A.handled = none) (F : Fr h₀ L s₁.heap m) (N : News h₀ L s₁.heap news) (hr : IsRange s₁.heap r a b c t u v) (hsm : Builtin.Range.small a b c = true) (hn : Builtin.Range.rangeSize a b c = ((n : Nat) : Int)) (hsz : n ≤ sizeLine)
    (h : ∀ g, CompRest prog w A h₀ L m env elt x scope cl { s₁ with heap := g } (fun _ => True) (fun i v => ∃ t, v = .int (a + (i : Int) * c) t) (Fin { s₁ with heap := g }) n 0 [] news) :
    SrcRg prog w A h₀ L m env elt x scope cl Fin (.ref r) s₁ := ⟨r, a, b, c, t, u, v, n, news, rfl, hh, F, N, hr, hsm, hn, hsz, h⟩
theorem ListComp_R {elt iter : Expr} {x : Str} {px : Pos} {scope : Scope} {cl : List (Str × Addr)} {pos : Pos} {Q : Value → Shared → Prop} (F₀ : Fr h₀ L s.heap m)
    (hclos : closureFor scope env = pure cl) (hcell : ∀ y ∈ scope.names, y.2 ≠ .cell) (hkind : scope.kind = .function)
    (hnames : ∀ y ∈ scope.names, y.2 = .local → scope.names.lookup y.1 = some .local) (hx : scope.names.lookup x = some .local)
    (h : wpAny (model prog w) A (eval iter env) (SrcRg prog w A h₀ L m env elt x scope cl (fun s₂ => FinE h₀ L m s₂ Q)) E s)
    (hs : ∀ x, foldedSetIterable iter env x = pure x := by intro _; rfl) :
    wpAny (model prog w) A (eval (.ListComp elt [⟨.Name x px, iter, [], 0⟩] scope pos) env) Q E s := by
  rw [eval_ListComp]
  refine wpAny_comprehension_free (use := none) rfl hs hclos hkind hnames (wpAny_mono h (fun xv s₁ h₁ => ?_) fun _ _ e => e)
  obtain ⟨r, a, b, c, t, u, v, n, news, rfl, hh, F, N, hr, hsm, hn, hsz, R⟩ := h₁
  refine wpAny_pyIter_range hr hsm ?_
  refine block_U (Walks.range hh s₁.heap.objs.size a c n) hsz (fun i h st => ⟨_, st⟩) (fun i h h' o nw st e e' _ _ _ => by
      have st' : h.get? _ = some _ := st
      show h'.get? _ = some _
      rw [e', ← e]; exact st') hcell hkind hx (by show IsRangeIter _ _ _ _ _; rw [hn]; simpa using Heap.get?_push_size _ rfl) (fun b hb => ?_)
    (F.keeps fun _ _ e => Heap.get?_push_of_some _ e) (N.grown fun _ _ e => Heap.get?_push_of_some _ e) (Nat.ne_of_lt F.ns.lt) (next_is_new F) (fun p hp => Nat.ne_of_lt (Heap.lt_size (N p hp).1)) trivial (R _) ?_
  · rw [List.mem_singleton.mp hb]
    show s₁.heap.objs.size < (s₁.heap.push _).objs.size
    rw [Heap.size_push]; exact Nat.lt_succ_self _
  · intro D C h tk m' ys news' F' N' o1 hn hC₀ hD₀ hCL hDL hCD offC fin
    refine ⟨m', hn, fun h'' hs'' => fin D h'' tk (F'.change hs'' hCL hC₀) (fun p hp => ?_) o1⟩
    refine ⟨hs''.extBut _ _ ?_ (N' p hp).1, (N' p hp).2⟩
    rcases List.mem_cons.mp hp with rfl | hp
    · exact Ne.symm hCD
    · exact offC p hp
end
end Mine
end
section
open PySem PySem.W PyProof.Rows PySem.Calls PySem.Spec PyProof.V
set_option maxRecDepth 100000
set_option maxHeartbeats 8000000
namespace Mine
/-- enter a def over an older ground, with a ledger -/
theorem enterX2 {prog : Program} {w : World} {A : Around} {s : Shared} {b₀ : Heap} {K : Frag} {mg mb : Str → Option Value} {R : Result → Shared → Prop} {p : Program} {loose : List Str}
    {name qual : Str} {params : Arguments} {body : List Stmt} {scope : Scope} {dV kV doc pm cdv ct oc : Value} {an od : Option Addr} {osl : Array (Option Value)} {f : Addr} {args : Args} (news : List (Addr × Obj))
    (X : K.In b₀) (T : TopRead p loose mg mb b₀) (hk : Keeps b₀ s.heap) (hsz : b₀.objs.size ≤ s.heap.objs.size) (hnews : ∀ p ∈ news, s.heap.get? p.1 = some p.2 ∧ b₀.get? p.1 = none) (binds : List (Str × Value))
    (ho : K.lookup f = some ⟨oc, od, .func (fnOf name qual params body scope dV kV doc pm an cdv ct), osl⟩) (hcd : codeIn K cdv qual = true) (hroom : A.depth < recursionLimit)
    (hbind : bindArgs (fnOf name qual params body scope dV kV doc pm an cdv ct) args = pure binds) (hloc : ∀ y ∈ binds, scope.names.lookup y.1 = some .local)
    (hnd : (binds.map (·.1)).Nodup)
    (h : ∀ L h₁, Fr b₀ L h₁ (ov binds fun _ => none) → News b₀ L h₁ news → (∀ p ∈ news, p.1 < L) →
      wpAny (model prog w) (A.deeper (envX qual scope L f cdv [])) (execs body (envX qual scope L f cdv []))
        (fun fl s' => R (.ok (.ret (match fl with | .ret v => v | _ => .none))) s') (fun _ _ => False)
        { s with heap := h₁, toks := s.toks + binds.length })
    (hco : scope.isCoroutine = false) (hgen : scope.isGenerator = false) (hkd : scope.kind = .function)
    (hcell : ∀ x ∈ scope.names, x.2 ≠ .cell) : codeAny (model prog w) A (.call (.ref f) args) R s := by
  have X' := X.keeps hk
  have T' := T.keeps hk
  refine codeAny_call_def (fd := fnOf name qual params body scope dV kV doc pm an cdv ct) (body := body) (binds := binds) hroom (X' _ _ ho) rfl (TopRead.nolimit T') (codeRec_of X' hcd) rfl (BindsTo.of_eq hbind) hcell hloc (fun h₁ hns hk₁ => ?_) hco hgen hkd
  have e : (fun y => binds.reverse.lookup y) = ov binds fun _ => none := lookup_ov hnd
  rw [e] at hns
  refine wpAny_mono (h s.heap.objs.size h₁ ⟨hns, fun b o e => hk₁ b o (hk b o e), hsz⟩ (fun p hp => ?_) (fun p hp => Heap.lt_size (hnews p hp).1)) (fun _ _ y => y) (fun _ _ y => y.elim)
  exact ⟨hk₁ _ _ (hnews p hp).1, Nat.ne_of_lt (Heap.lt_size (hnews p hp).1), (hnews p hp).2⟩
theorem Room.under {A : Around} {d u : Nat} {c : Code} (R : Room A (d + c.weight) (u + c.cUnits)) : Room (A.under c) d u :=
  ⟨R.h, by have := R.d; show A.depth + c.weight + d < _; omega, by have := R.u; show A.units + c.cUnits + u < _; omega⟩
section
variable {w : World} {A : Around} {E : Value → Shared → Prop} {s : Shared} {env : Env} {h₀ : Heap} {body : List Stmt} {Q : Flow → Shared → Prop}
theorem strAt1 {x : Str} {xx : Str} {px : Pos} {t : Tok} {m : Str → Option Value} {news : List (Addr × Obj)} (hh : A.handled = none)
    (F : Fr h₀ env.locals s.heap m) (N : News h₀ env.locals s.heap news)
    (J : Nat → (Str → Option Value) → List (Addr × Obj) → Prop) (h0 : J 0 m news)
    (step : ∀ I, (∀ p ∈ news, p.1 < I) → ∀ (i : Nat) c u h₁, x.cps[i]? = some c → StepT1 w A s env h₀ (.Name xx px) body Q E I J i (.str ⟨#[c]⟩ u) h₁)
    (done : ∀ h' tk m' news', Fr h₀ env.locals h' m' → News h₀ env.locals h' news' → J x.cps.size m' news' → Q .next { s with heap := h', toks := tk }) :
    wpAny (model PySem.Challenge.rw_xp0024_01.row.prog w) A (pyIter (.str x t)) (fun it s₂ => TurnsAt PySem.Challenge.rw_xp0024_01.row.prog w A h₀ env (.Name xx px) body Q E it s₂) E s := by
  have key : ∀ (kind : String) (W : Walks PySem.Challenge.rw_xp0024_01.row.prog w A s.heap.objs.size [s.heap.objs.size] [s.heap.objs.size] x.cps.size (SignAt x) (fun i h => h.IsStrIter s.heap.objs.size kind x t i)) (o : Obj) (hst : (s.heap.push o).IsStrIter s.heap.objs.size kind x t 0),
      TurnsAt PySem.Challenge.rw_xp0024_01.row.prog w A h₀ env (.Name xx px) body Q E (.ref s.heap.objs.size) { s with heap := s.heap.push o } := by
    intro kind W o hst
    refine turnsAt1 (s := { s with heap := _ }) (axs := []) (KTurns.ofWalks W fun i v s Q E st q => wpAny_of_eq (rfl : letOwnedTupleGo (.Name xx px) (.ref _) v = pure ()) q) (fun i h st => by obtain ⟨o, e, _⟩ := st; exact ⟨o, e⟩) (next_is_new F) (Nat.ne_of_gt F.ns.lt) (fun _ ha => nomatch ha)
      hst (F.push _) (fun p hp => ⟨Heap.get?_push_of_some _ (N p hp).1, (N p hp).2⟩) (fun p hp => Nat.ne_of_lt (Heap.lt_size (N p hp).1)) J h0 ?_ done
    rintro i v m₁ news₁ h₁ tk₁ o hi ⟨c, u, hc, rfl⟩ hJ hf F₁ N₁
    exact step _ (fun p hp => Heap.lt_size (N p hp).1) i c u h₁ hc m₁ news₁ tk₁ o hJ hf F₁ N₁
  cases ha : x.cps.all (· < 128)
  · exact wpAny_pyIter_wide ha (key _ (Walks.strWide hh _ x t) _ ⟨_, Heap.get?_push_size _ rfl, rfl, rfl⟩)
  · exact wpAny_pyIter_ascii ha (key _ (Walks.strAscii hh _ x t) _ ⟨_, Heap.get?_push_size _ rfl, rfl, rfl⟩)
end
end Mine
end
section
open PySem PySem.W PyProof.Rows PySem.Calls PySem.Spec PyProof.V
open Sem (wp)
set_option maxRecDepth 100000
set_option maxHeartbeats 8000000
namespace Mine

/-- nobody on this stack holds a bytearray -/
def Clean (st : List (Code × Pos)) : Prop := ∀ (self : Value) (k : List (Code × Pos) → Sem Bool), Builtin.Bytes.exported self = .stack k → k st = .pure false
/-- a code that holds none -/
def Free (c : Code) : Prop := ∀ (p : Pos) (st : List (Code × Pos)), Clean st → Clean ((c, p) :: st)

theorem free_of {c : Code} (h : ∀ (self : Value) (k : List (Code × Pos) → Sem Bool), Builtin.Bytes.exported self = .stack k → ∀ p st, k st = .pure false → k ((c, p) :: st) = .pure false) : Free c :=
  fun p st hs self k e => h self k e p st (hs self k e)
theorem clean_nil : Clean [] := by
  intro self k e
  cases e
  rfl
theorem free_func (b : List Stmt) (env : Env) : Free (.func b env) := by
  refine free_of fun self k e p st h => ?_
  cases e
  exact h
theorem free_call (f : Value) (a : Args) : Free (.call f a) := by
  refine free_of fun self k e p st h => ?_
  cases e
  exact h
theorem free_for (t : Expr) (it : Value) (b o : List Stmt) (env : Env) : Free (.forLoop t it b o env) := by
  refine free_of fun self k e p st h => ?_
  cases e
  exact h
theorem free_caller : Free (.builtin "claim.caller" {}) := by
  refine free_of fun self k e p st h => ?_
  cases e
  exact h
theorem free_typecall (T : String) (l : List Value) (kw : List (Str × Value)) : Free (.builtin "type.__call__" ⟨.type T :: l, kw⟩) := by
  refine free_of fun self k e p st h => ?_
  cases e
  exact h
theorem free_init (v : Value) (l : List Value) (kw : List (Str × Value)) : Free (.builtin "bytearray.__init__" ⟨v :: l, kw⟩) := by
  refine free_of fun self k e p st h => ?_
  cases e
  have : (Builtin.Bytes.sameRef v self && Builtin.Bytes.decodersThatHold.contains "bytearray.__init__") = false := by
    rw [show Builtin.Bytes.decodersThatHold.contains "bytearray.__init__" = false from by decide +kernel, Bool.and_false]
  show Sem.pure ((Builtin.Bytes.sameRef v self && Builtin.Bytes.decodersThatHold.contains "bytearray.__init__") || _) = _
  rw [this, Bool.false_or]
  exact h

section
variable {α β : Type} {M : Model} {A : Around} {E : Value → Shared → Prop} {s : Shared}

/-- as wpAny, on a clean stack -/
def wpC (M : Model) (A : Around) (t : Sem α) (Q : α → Shared → Prop) (E : Value → Shared → Prop) (s : Shared) : Prop :=
  ∀ Γ p, Γ.In A → (∀ q, Clean ((Γ.code, q) :: Γ.below)) → wp M Γ t (fun a _ s' => Q a s') (fun e _ s' => E e s') p s
def codeC (M : Model) (A : Around) (c : Code) (R : Result → Shared → Prop) (s : Shared) : Prop :=
  ∀ Γ p, Γ.code = c → Γ.Below A → Clean Γ.below → wpCode M Γ R p s

theorem cOf {t : Sem α} {Q : α → Shared → Prop} (h : wpAny M A t Q E s) : wpC M A t Q E s := fun Γ p hΓ _ => h Γ p hΓ
theorem cPure {a : α} {Q : α → Shared → Prop} (h : Q a s) : wpC M A (pure a) Q E s := fun _ _ _ _ => h
theorem cMono {t : Sem α} {Q Q' : α → Shared → Prop} {E' : Value → Shared → Prop} (h : wpC M A t Q E s) (hQ : ∀ a s, Q a s → Q' a s) (hE : ∀ e s, E e s → E' e s) : wpC M A t Q' E' s :=
  fun Γ p hΓ hc => Sem.wp_mono M Γ t (fun a _ s => hQ a s) (fun e _ s => hE e s) p s (h Γ p hΓ hc)
theorem cBind {m : Sem α} {f : α → Sem β} {Q : β → Shared → Prop} (h : wpC M A m (fun a s' => wpC M A (f a) Q E s') E s) : wpC M A (m >>= f) Q E s := fun Γ p hΓ hc => by
  rw [Sem.wp_bind']
  exact Sem.wp_mono M Γ m (fun a p' s' h' => h' Γ p' hΓ hc) (fun _ _ _ h' => h') p s (h Γ p hΓ hc)
theorem cHolding {vs : List Value} {m : Sem α} {Q : α → Shared → Prop} (h : wpC M A m Q E s) : wpC M A (holding vs m) Q E s :=
  fun Γ p hΓ hc => by rw [Sem.wp_holding]; exact h Γ p hΓ hc
theorem cOnRaise {m : Sem α} {k : Value → Sem Unit} {Q : α → Shared → Prop} (h : wpC M A m Q No s) : wpC M A (m.onRaise k) Q E s := fun Γ p hΓ hc => by
  rw [Sem.wp_onRaise]
  exact Sem.wp_mono M Γ m (fun _ _ _ h' => h') (fun _ _ _ h' => h'.elim) p s (h Γ p hΓ hc)
theorem cTree {c : Code} {R : Result → Shared → Prop} (hc : Free c)
    (h : wpC M (A.under c) (M.den c) (fun fin s' => match fin with | .done f => R (.ok f) s' | .again c' => c'.quiet = true ∧ codeC M A c' R s') (fun e s' => R (.error e) s') s) : codeC M A c R s := fun Γ p hcode hΓ hcl => by
  rw [wpCode_iff_wp, hcode]
  refine Sem.wp_mono M Γ _ (fun fin p' s' h' => ?_) (fun _ _ _ h' => h') p s (h Γ p (hcode ▸ hΓ.in) fun q => by rw [hcode]; exact hc q _ hcl)
  cases fin with
  | done f => exact h'
  | again c' => exact ⟨h'.1, h'.2 (Γ.goto c') p' rfl (hΓ.goto c') hcl⟩
theorem cCall {f : Value} {pos : List Value} {kw : List (Str × Value)} {Q : Value → Shared → Prop}
    (hc : codeC M A (.call f ⟨pos, kw⟩) (fun r s' => match r with | .ok (.ret v) => Q v s' | .ok _ => False | .error e => E e s') s) : wpC M A (call f pos kw) Q E s := fun Γ p hΓ hcl => by
  show wp M Γ (runValue (.call f ⟨pos, kw⟩)) _ _ p s
  rw [Sem.wp_runValue]
  exact hc _ p rfl (hΓ.enter _ none p (by intro x; cases x)) (hcl p)
theorem cRun {c : Code} {h : Option Value} {Q : Flow → Shared → Prop}
    (hc : codeC M (A.mark h) c (fun r s' => match r with | .ok f => Q f s' | .error e => E e s') s) (hnb : h ≠ some byPass := by intro x; cases x) : wpC M A (run c h) Q E s :=
  fun Γ p hΓ hcl => by rw [Sem.wp_run]; exact hc _ p rfl (hΓ.enter c h p hnb) (hcl p)
theorem cCodeOf {c : Code} {R : Result → Shared → Prop} (h : codeAny M A c R s) : codeC M A c R s := fun Γ p hc hΓ _ => h Γ p hc hΓ
theorem cCodeMono {c : Code} {R R' : Result → Shared → Prop} (h : codeC M A c R s) (hR : ∀ r s, R r s → R' r s) : codeC M A c R' s := fun Γ p hc hΓ hcl => wpCode_mono hR (h Γ p hc hΓ hcl)

/-! the spine's statements -/
variable {env : Env}
theorem cExecs {st : Stmt} {rest : List Stmt} {Q : Flow → Shared → Prop} (h : wpC M A (exec st env) (fun f s' => match f with | .next => wpC M A (execs rest env) Q E s' | f => Q f s') E s) : wpC M A (execs (st :: rest) env) Q E s := fun Γ p hΓ hc => by
  rw [execs_cons, Sem.wp_bind']
  refine Sem.wp_mono M Γ _ (fun f p' s' h' => ?_) (fun _ _ _ h' => h') _ _ (h Γ p hΓ hc)
  cases f <;> first | exact h' Γ p' hΓ hc | exact h'
theorem cAssign {x : Str} {pos' pos : Pos} {value : Expr} {Q : Flow → Shared → Prop} (h : wpC M A (eval value env) (fun v s₁ => wpC M A (storeName env x v) (fun _ => Q .next) E s₁) E s)
    (hs : swapsWith value (some (.Name x pos')) pos.line env = pure false := by rfl) : wpC M A (exec (.Assign [.Name x pos'] value pos) env) Q E s := fun Γ p hΓ hc => by
  simp only [exec_Assign_Name env x pos' value pos hs, Sem.wp_bind', Sem.wp_cmd_standAt, Sem.wp_bindName, Sem.wp_pure']
  exact Sem.wp_mono M Γ _ (fun v _ s₁ h₁ => h₁ Γ _ hΓ hc) (fun _ _ _ h' => h') _ _ (h Γ _ hΓ hc)
theorem cIf {test : Expr} {body orelse : List Stmt} {pos : Pos} {Q : Flow → Shared → Prop} (h : wpC M A (isTrue test env (eval test env)) (fun b s₂ => if b then wpC M A (execs body env) Q E s₂ else wpC M A (execs orelse env) Q E s₂) E s) :
    wpC M A (exec (.If test body orelse pos) env) Q E s := fun Γ p hΓ hc => by
  simp only [exec_If, Sem.wp_bind', Sem.wp_cmd_standAt]
  refine Sem.wp_mono M Γ _ (fun b p₂ s₂ h₂ => ?_) (fun _ _ _ h' => h') _ _ (h Γ _ hΓ hc)
  cases b <;> exact h₂ Γ p₂ hΓ hc
theorem cCompare {l r : Expr} {op : CmpOp} {pos : Pos} {whole : Sem Value} {Q : Bool → Shared → Prop}
    (h : wpC M A (eval l env) (fun a s₁ => wpC M A (eval r env) (fun b s₂ => wpC M A (compareOp op a b) (fun c s₃ => wpC M A (truthy c) Q E s₃) E s₂) E s₁) E s)
    (hm : behindInMarks op r = false := by with_unfolding_all rfl) : wpC M A (isTrue (.Compare l [op] [r] pos) env whole) Q E s := fun Γ p hΓ hc => by
  simp only [isTrue_Compare1, markedBehindIn_of_false hm, Sem.wp_bind', Sem.wp_holding, Sem.wp_cmd_standAt, Sem.wp_operate]
  exact Sem.wp_mono M Γ _ (fun a p₁ s₁ h₁ => Sem.wp_mono M Γ _ (fun b _ s₂ h₂ => Sem.wp_mono M Γ _ (fun c p₃ s₃ h₃ => h₃ Γ p₃ hΓ hc)
    (fun _ _ _ h' => h') _ _ (h₂ Γ _ hΓ hc)) (fun _ _ _ h' => h') _ _ (h₁ Γ p₁ hΓ hc)) (fun _ _ _ h' => h') _ _ (h Γ p hΓ hc)
end

section
variable {prog : Program} {w : World} {A : Around} {s : Shared} {R : Result → Shared → Prop}
theorem cFunc {body : List Stmt} {env : Env} (h : wpC (model prog w) (A.deeper env) (execs body env) (fun f s' => R (.ok (.ret (match f with | .ret v => v | _ => .none))) s') No s) :
    codeC (model prog w) A (.func body env) R s := by
  refine cTree (free_func _ _) ?_
  show wpC _ (A.deeper env) (do point; match ← (execs body env).onRaise (leaving env) with | .ret v => ret v | _ => ret .none) _ _ s
  refine cBind (cOf (wpAny_point (cBind (cOnRaise (cMono h (fun f s' h' => ?_) fun _ _ x => x)))))
  cases f <;> exact cPure h'
end

section
variable {M : Model} {A : Around} {E : Value → Shared → Prop} {s : Shared} {env : Env}
theorem cKeep {α : Type} {vs : List Value} {m : Sem α} {Q : α → Shared → Prop} (h : wpC M A m Q E s) : wpC M A (m.keep vs) Q E s := fun Γ p hΓ hc => by rw [Sem.wp_keep]; exact h Γ p hΓ hc
/-- a call by a def (frame) or by a type (machine): its arguments plain -/
theorem cCallWith {pos : Pos} {f : Value} {first : List Value} {args : List (Bool × Sem Value)} {Q : Value → Shared → Prop} (k : Keeper) (hk : k = .frame ∨ k = .machine) (hplain : args.any (·.1) = false)
    (h : wpC M A (evalArgs f true args []) (fun a s₁ => (∀ Q' : Keeper → Shared → Prop, Q' k s₁ → wpAny M A (keeperOf f) Q' E s₁) ∧ wpC M A (call f (first ++ a.pos) a.kw) Q E s₁) E s) :
    wpC M A (callWith pos f first args []) Q E s := by
  unfold callWith
  refine cBind (cHolding (cMono h (fun a s₁ h₁ => cBind (cOf (wpAny_standAt ?_))) fun _ _ x => x))
  simp only [hplain, List.any_nil, Bool.or_false]
  have fin : ∀ {t : Sem Value}, wpC M A t Q E s₁ → wpC M A (t >>= fun r => holding [r] point >>= fun _ => pure r) Q E s₁ :=
    fun ht => cBind (cMono ht (fun r s₂ hr => cBind (cOf (wpAny_holding (wpAny_point (cPure hr))))) fun _ _ x => x)
  refine cBind (cOf (h₁.1 _ ?_))
  rcases hk with rfl | rfl
  · dsimp only
    split
    · exact fin h₁.2
    · exact fin (by unfold callMarked; exact cKeep h₁.2)
  · exact fin h₁.2
theorem cSplicedNil {Q : List Value → Shared → Prop} (h : Q [] s) : wpC M A (spliced []) Q E s := cPure h
theorem cSplicedCons {x : Sem Value} {rest : List (Bool × Sem Value)} {Q : List Value → Shared → Prop}
    (h : wpC M A x (fun v s₁ => wpC M A (spliced rest) (fun vs s₂ => Q (v :: vs) s₂) E s₁) E s) : wpC M A (spliced ((false, x) :: rest)) Q E s := by
  rw [spliced]
  refine cBind (cMono h (fun v s₁ h₁ => ?_) fun _ _ x => x)
  simp only [Bool.false_eq_true, if_false]
  exact cBind (cPure (cBind (cHolding (cMono h₁ (fun vs s₂ h₂ => cPure h₂) fun _ _ x => x))))
theorem cArgs {f : Value} {x : Sem Value} {rest : List (Bool × Sem Value)} {Q : Args → Shared → Prop}
    (h : wpC M A (spliced ((false, x) :: rest)) (fun vs s' => Q ⟨vs, []⟩ s') E s) : wpC M A (evalArgs f true ((false, x) :: rest) []) Q E s := by
  unfold evalArgs
  show wpC M A (spliced ((false, x) :: rest) >>= _) Q E s
  refine cBind (cMono h (fun vs s' h' => ?_) fun _ _ x => x)
  refine cHolding ?_
  exact cBind (cPure (cBind (cPure (cPure h'))))
theorem cCallName {x : Str} {np pos : Pos} {args : List Expr} {Q : Value → Shared → Prop}
    (h : wpC M A (eval (.Name x np) env) (fun f s₁ => wpC M A (callWith pos f [] (backTo pos (starEach args env)) []) Q E s₁) E s) :
    wpC M A (eval (.Call (.Name x np) args [] pos) env) Q E s := by
  show wpC M A (do callWith pos (← eval (.Name x np) env) [] (backTo pos (starEach args env)) (backToKw pos (keywordEach [] env))) Q E s
  exact cBind h
theorem cCall1 {x : Str} {np pos : Pos} {e : Expr} {Q : Value → Shared → Prop} (k : Keeper) (hk : k = .frame ∨ k = .machine)
    (h : wpC M A (eval (.Name x np) env) (fun f s₁ => wpC M A (eval e env) (fun v s₂ => Stopped ((∀ Q' : Keeper → Shared → Prop, Q' k s₂ → wpAny M A (keeperOf f) Q' E s₂) ∧ wpC M A (call f [v]) Q E s₂)) E s₁) E s)
    (hs : ∀ p, backTo p (starEach [e] env) = [(false, eval e env)] := by intro _; rfl) : wpC M A (eval (.Call (.Name x np) [e] [] pos) env) Q E s := by
  refine cCallName (cMono h (fun f s₁ h₁ => ?_) fun _ _ x => x)
  rw [hs pos]
  exact cCallWith k hk rfl (cArgs (cSplicedCons (cMono h₁ (fun v s₂ h₂ => cSplicedNil h₂) fun _ _ x => x)))
theorem cCall2 {x : Str} {np pos : Pos} {e e' : Expr} {t : Sem Value} {Q : Value → Shared → Prop} (k : Keeper) (hk : k = .frame ∨ k = .machine) (hs : backTo pos (starEach [e, e'] env) = [(false, t), (false, eval e' env)])
    (h : wpC M A (eval (.Name x np) env) (fun f s₁ => wpC M A t (fun v s₂ => wpC M A (eval e' env) (fun v' s₃ => Stopped ((∀ Q' : Keeper → Shared → Prop, Q' k s₃ → wpAny M A (keeperOf f) Q' E s₃) ∧ wpC M A (call f [v, v']) Q E s₃)) E s₂) E s₁) E s) :
    wpC M A (eval (.Call (.Name x np) [e, e'] [] pos) env) Q E s := by
  refine cCallName (cMono h (fun f s₁ h₁ => ?_) fun _ _ x => x)
  rw [hs]
  exact cCallWith k hk rfl (cArgs (cSplicedCons (cMono h₁ (fun v s₂ h₂ => cSplicedCons (cMono h₂ (fun v' s₃ h₃ => cSplicedNil h₃) fun _ _ x => x)) fun _ _ x => x)))
theorem keeper_fn {f : Addr} {o : Obj} {fd : FuncData} (ho : s.heap.get? f = some o) (hd : o.data = .func fd) (Q' : Keeper → Shared → Prop) (h : Q' .frame s) : wpAny M A (keeperOf (.ref f)) Q' E s := by
  unfold keeperOf
  refine wpAny_bind (wpAny_load ho ?_)
  rw [hd]
  exact wpAny_pure h
theorem keeper_type {T : String} (Q' : Keeper → Shared → Prop) (h : Q' .machine s) : wpAny M A (keeperOf (.type T)) Q' E s := wpAny_pure h
theorem cTuple {elts : List Expr} {k : Nat} {pos : Pos} {Q : Value → Shared → Prop}
    (h : wpC M A (spliced (backTo pos (starEach elts env))) (fun vs s₁ => wpC M A (newTuple vs) Q E s₁) E s) : wpC M A (eval (.Tuple elts k pos) env) Q E s := by
  show wpC M A (do standAt pos; newTuple (← spliced (backTo pos (starEach elts env)))) Q E s
  exact cBind (cOf (wpAny_standAt (cBind h)))
end

section
variable {prog : Program} {w : World} {A : Around} {s : Shared} {R : Result → Shared → Prop}
theorem cEnterX {K : Frag} {mg mb : Str → Option Value} {p : Program} {loose : List Str}
    {name qual : Str} {params : Arguments} {body : List Stmt} {scope : Scope} {dV kV doc pm cdv ct oc : Value} {an od : Option Addr} {osl : Array (Option Value)} {f : Addr} {args : Args}
    (X : K.In s.heap) (T : TopRead p loose mg mb s.heap) (binds : List (Str × Value))
    (ho : K.lookup f = some ⟨oc, od, .func (fnOf name qual params body scope dV kV doc pm an cdv ct), osl⟩) (hcd : codeIn K cdv qual = true) (hroom : A.depth < recursionLimit)
    (hbind : bindArgs (fnOf name qual params body scope dV kV doc pm an cdv ct) args = pure binds) (hloc : ∀ y ∈ binds, scope.names.lookup y.1 = some .local)
    (hnd : (binds.map (·.1)).Nodup)
    (h : ∀ h₁, Fr s.heap s.heap.objs.size h₁ (ov binds fun _ => none) → News s.heap s.heap.objs.size h₁ [] →
      wpC (model prog w) (A.deeper (envX qual scope s.heap.objs.size f cdv [])) (execs body (envX qual scope s.heap.objs.size f cdv []))
        (fun fl s' => R (.ok (.ret (match fl with | .ret v => v | _ => .none))) s') (fun _ _ => False)
        { s with heap := h₁, toks := s.toks + binds.length })
    (hco : scope.isCoroutine = false) (hgen : scope.isGenerator = false) (hk : scope.kind = .function)
    (hcell : ∀ x ∈ scope.names, x.2 ≠ .cell) : codeC (model prog w) A (.call (.ref f) args) R s := by
  have ho' := X _ _ ho
  obtain ⟨c, oc', vs, tq, hc, hoc, hdc, hq⟩ := codeRec_of X hcd
  subst hc
  refine cTree (free_call _ _) ?_
  show wpC _ A.in1 (callAny (.ref f) args) _ _ s
  simp only [callAny]
  refine cOf ?_
  refine wpAny_bind (wpAny_load ho' ?_)
  simp only [callFunction, hco, hgen]
  refine wpAny_bind (m := field (.ref c) 1) (wpAny_field hoc hdc hq (wpAny_bind (wpAny_pure ?_)))
  rw [hbind]
  refine wpAny_bind (wpAny_pure (wpAny_bind (wpAny_newFunctionEnv hcell hloc (fun h₁ hns hsb => wpAny_bind (wpAny_enterFrame ((TopRead.nolimit T).fresh _ hsb) hroom (wpAny_pure (And.intro rfl (cFunc ?_))))) hk)))
  have e : (fun y => binds.reverse.lookup y) = ov binds fun _ => none := lookup_ov hnd
  rw [e] at hns
  exact h h₁ ⟨hns, fun b o e => hsb.extBut b o (Nat.ne_of_lt (Heap.lt_size e)) (Heap.get?_push_of_some _ e), Nat.le_refl _⟩ (fun _ hp => nomatch hp)
end
section
variable {prog : Program} {w : World} {A : Around} {s : Shared} {R : Result → Shared → Prop}
theorem cBuiltin {id : String} {args : Args} {b : Builtin} (hf : Free (.builtin id args)) (hb : entryFor table id = some b)
    (h : wpC (model prog w) (A.under (.builtin id args)) (b args) (fun fin s' => match fin with | .done f => R (.ok f) s' | .again c' => c'.quiet = true ∧ codeC (model prog w) A c' R s') (fun e s' => R (.error e) s') s) :
    codeC (model prog w) A (.builtin id args) R s := by
  refine cTree hf ?_
  show wpC _ _ (match entryFor table id with | some b => b args | none => unsupported ((withoutEnding? id "#data").getD id)) _ _ s
  rw [hb]; exact h
end
/-- the contract of a call on a clean stack -/
def SpecC (w : World) (f : Addr) (vs : List Value) (s : Shared) (d u : Nat) (Post : Value → Heap → Prop) : Prop :=
  ∀ (dp un : Nat) (fr : Option (List Env)) (gs : Option (List Code)) (Q : Value → Shared → Prop), Room ⟨none, dp, fr, gs, un⟩ d u →
    (∀ v h' tk, Keeps s.heap h' → Post v h' → Q v { s with heap := h', toks := tk }) →
    wpC (model PySem.Challenge.rw_xp0024_01.row.prog w) ⟨none, dp, fr, gs, un⟩ (call (.ref f) vs) Q No s
theorem useC {w : World} {f : Addr} {vs : List Value} {s : Shared} {d u : Nat} {Post : Value → Heap → Prop} {A : Around} {Q E : Value → Shared → Prop} {h₀ : Heap} {L : Addr} {m : Str → Option Value} {news : List (Addr × Obj)}
    (S : SpecC w f vs s d u Post) (F : Fr h₀ L s.heap m) (N : News h₀ L s.heap news) (R : Room A d u)
    (h : ∀ v h' tk, Keeps s.heap h' → Fr h₀ L h' m → News h₀ L h' news → Post v h' → Q v { s with heap := h', toks := tk }) :
    wpC (model PySem.Challenge.rw_xp0024_01.row.prog w) A (call (.ref f) vs) Q E s := by
  obtain ⟨hd, dp, fr, gs, un⟩ := A
  obtain rfl : hd = none := R.h
  exact cMono (S dp un fr gs Q R fun v h' tk k p => h v h' tk k (Fr.later F k) (News.later N k) p) (fun _ _ x => x) fun _ _ x => x.elim
end Mine
end
section
open PySem PySem.W PyProof.Rows PySem.Calls PySem.Spec PyProof.V
open Sem (wp)
set_option maxRecDepth 100000
set_option maxHeartbeats 8000000
namespace Mine
theorem mro_ba : mroOf (.type "bytearray") = pure [.type "bytearray", .type "object"] := by rw [mroOf_type]; kernel_rfl
theorem new_ba : typeLookup (.type "bytearray") "__new__" = pure (some (.builtin "bytearray.__new__")) := by rw [typeLookup_type, builtinLookup_eq_fast]; kernel_rfl
theorem init_ba : Slot "bytearray" "__init__" "bytearray.__init__" :=
  .of (owner := "bytearray") (n := "__init__") (by rw [typeLookup_type, builtinLookup_eq_fast]; kernel_rfl) (by decide +kernel) (by decide +kernel) (by decide +kernel)
    (by first | exact .inl (by decide +kernel) | exact .inr (by decide +kernel)) (by rw [isSubtype_type]; kernel_rfl)
theorem called_ba : TypeCalled "bytearray" "bytearray.__new__" "bytearray.__init__" :=
  ⟨by decide +kernel, by decide +kernel, ⟨_, _, mro_ba⟩, madeBy_type mro_ba new_ba (by decide +kernel), by decide +kernel, by rw [isSubtype_type]; kernel_rfl, init_ba⟩
theorem tcall_ba (a : Value) : checkTypeCall "bytearray" ⟨[a], []⟩ = pure () := by kernel_rfl
theorem ncall_ba (a : Value) : checkBuiltinCall "bytearray.__new__" ⟨[.type "bytearray", a], []⟩ = pure () := by kernel_rfl
theorem entry_new_ba : entryFor table "bytearray.__new__" = some Builtin.«list.__new__» := 
  entryFor_alias (id' := "list.__new__") (by kernel_rfl) rfl (by decide +kernel) (by kernel_rfl)
theorem entry_init_ba : entryFor table "bytearray.__init__" = some Builtin.«bytearray.__init__» := entryFor_of_tree (by kernel_rfl)
theorem plain_new_ba : plainId "bytearray.__new__" = true := by decide +kernel
set_option maxRecDepth 1000000 in
set_option maxHeartbeats 4000000 in
theorem owner_new_ba : ("bytearray.__new__".splitOn ".__new__").headD "" = "bytearray" := by simp +decide [String.splitOn, String.splitOnAux]
theorem sub_ba : isSubtype (.type "bytearray") (.type "bytearray") = pure true := by rw [isSubtype_type]; kernel_rfl
section
variable {prog : Program} {w : World} {A : Around} {E : Value → Shared → Prop} {s : Shared}
theorem code_new_ba (a : Value) {Q₁ : Value → Shared → Prop}
    (h : Q₁ (.ref s.heap.objs.size) { s with heap := s.heap.push { cls := .type "bytearray", data := .bytearray #[] } }) :
    codeAny (model prog w) A (.call (.builtin "bytearray.__new__") ⟨[.type "bytearray", a], []⟩) (wants Q₁ E) s := by
  refine codeAny_of_tree ?_
  show wpAny _ A.in1 (do checkBuiltinCall "bytearray.__new__" ⟨[.type "bytearray", a], []⟩; again (.builtin "bytearray.__new__" ⟨[.type "bytearray", a], []⟩)) _ _ s
  refine wpAny_bind (wpAny_of_eq (ncall_ba a) (wpAny_pure ⟨plainId_quiet plain_new_ba _, codeAny_builtin_stack entry_new_ba rfl fun p st => ?_⟩))
  rw [Around.under_plainId plain_new_ba _]
  have hsub := sub_ba
  have hown := owner_new_ba
  obtain ⟨hp, g, d, tk, os⟩ := s
  simp only [hown]
  wp_walk
  exact h
theorem cIteF {α : Type} {M : Model} {c : Bool} {a b : Sem α} {Q : α → Shared → Prop} (hc : c = false) (h : wpC M A b Q E s) : wpC M A (if c = true then a else b) Q E s := by
  subst hc; exact h
theorem cIteT {α : Type} {M : Model} {c : Bool} {a b : Sem α} {Q : α → Shared → Prop} (hc : c = true) (h : wpC M A a Q E s) : wpC M A (if c = true then a else b) Q E s := by
  subst hc; exact h
theorem cExported {M : Model} {self : Value} {Q : Bool → Shared → Prop} (h : Q false s) : wpC M A (Builtin.Bytes.exported self) Q E s := fun Γ p hΓ hc => by
  have e := hc p self _ rfl
  show wp M Γ (Sem.bind (Sem.pure ((Γ.code, p) :: Γ.below)) _) _ _ p s
  show wp M Γ (Sem.pure _) _ _ p s
  injection e with e
  rw [Sem.wp_pure]
  have : ∀ b : Bool, b = false → Q b s := fun b hb => hb ▸ h
  exact this _ e
theorem release_ba : typeLookup (.type "bytearray") "__release_buffer__" = pure (some (.builtin "bytearray.__release_buffer__")) := by rw [typeLookup_type, builtinLookup_eq_fast]; kernel_rfl
theorem ownRelease_ba {M : Model} {a : Addr} {Q : Bool → Shared → Prop} (hT : s.TypeIs (.ref a) "bytearray") (h : Q false s) : wpAny M A (Builtin.Bytes.ownRelease (.ref a)) Q E s := by
  unfold Builtin.Bytes.ownRelease Builtin.Bytes.slotIsOwn
  refine wpAny_bind (wpAny_bind (wpAny_specialOf hT release_ba ?_))
  show wpAny _ _ (if (!("bytearray.__release_buffer__".endsWith ("." ++ "__release_buffer__"))) = true then _ else _) _ _ _
  refine bm_if_false (by decide +kernel) ?_
  refine wpAny_isInstance (U := "bytearray.__release_buffer__".dropRight ("__release_buffer__".length + 1)) hT (b := true) ?_ (wpAny_pure h)
  rw [show ("bytearray.__release_buffer__".dropRight ("__release_buffer__".length + 1) : String) = "bytearray" from by decide +kernel]
  exact sub_ba
theorem bind_ba (v : Value) : Builtin.Bytes.bindOptional "bytearray.__init__" "bytearray" ["source", "encoding", "errors"] [v] [] = pure [some v, none, none] := by kernel_rfl
abbrev baObj (b : Array UInt8) : Obj := { cls := .type "bytearray", data := .bytearray b }
theorem write_ba {M : Model} {a : Addr} {b : Array UInt8} {f : Array UInt8 → Array UInt8} {Q : Unit → Shared → Prop} (ho : s.heap.get? a = some (baObj b)) (hz : (f b).size ≤ 1000)
    (h : ∀ h', Heap.SameBut a s.heap h' → h'.get? a = some (baObj (f b)) → Q () { s with heap := h' }) : wpAny M A (Builtin.Bytes.write (.ref a) f) Q E s := by
  show wpAny _ _ (updateBytearray a f) _ _ _
  unfold updateBytearray
  refine wpAny_bind (wpAny_load ho ?_)
  show wpAny _ _ (update a (Obj.mapBytearray f) >>= fun _ => lookBehind a) _ _ _
  refine wpAny_bind (wpAny_update ho ?_)
  have h2 : (s.heap.update a (Obj.mapBytearray f)).get? a = some (baObj (f b)) := Heap.get?_update_self (Obj.mapBytearray f) ho rfl
  refine wpAny_lookBehind (s := { s with heap := s.heap.update a (Obj.mapBytearray f) }) h2 ?_ (h _ (Heap.SameBut.update ..) h2)
  show (if (f b).size > sizeLine then some "bytearray:memory" else none) = none
  rw [if_neg]
  have : (1000 : Nat) ≤ sizeLine := by decide
  omega
theorem call_ba {n : Int} {t : Tok} {Q : Value → Shared → Prop} (hn : 0 < n) (hn2 : n ≤ 1000)
    (h : ∀ h', Keeps s.heap h' → h'.get? s.heap.objs.size = some { cls := .type "bytearray", data := .bytearray (Array.replicate n.toNat 0) } → Q (.ref s.heap.objs.size) { s with heap := h', toks := s.toks }) : wpC (model prog w) A (call (.type "bytearray") [.int n t]) Q E s := by
  obtain ⟨c, tl, hmro⟩ := called_ba.mro
  have hmade := called_ba.made
  refine cCall ?_
  refine cTree (free_call _ _) ?_
  show wpC _ _ (callAny (.type "bytearray") _) _ _ _
  refine cPure ⟨Code.quiet_builtin _ (by decide +kernel), ?_⟩
  refine cBuiltin (free_typecall _ _ _) F.entry_type_call ?_
  rw [Around.under_plain (weight_type_call_type "bytearray" [.int n t] []) rfl]
  unfold Builtin.«type.__call__»
  dsimp only
  refine cIteF (by decide) ?_
  refine cIteF called_ba.canCreate ?_
  refine cBind (cOf (wpAny_of_eq (tcall_ba _) ?_))
  refine cBind (cOf (wpAny_of_eq hmro ?_))
  refine cIteF rfl ?_
  refine cBind (cOf (wpAny_of_eq hmade ?_))
  refine cBind (cPure ?_)
  refine cBind (cHolding (cOf (wpAny_call (codeAny_mono (code_new_ba _ (E := fun _ _ => False) (Q₁ := fun v s' => v = .ref s.heap.objs.size ∧ s' = { s with heap := s.heap.push { cls := .type "bytearray", data := .bytearray #[] } }) ⟨rfl, rfl⟩) fun r s' hr => ?_))))
  cases r with
  | error e => exact (hr : False).elim
  | ok fl =>
  cases fl with
  | next => exact hr.elim
  | brk => exact hr.elim
  | cont => exact hr.elim
  | ret v =>
  obtain ⟨rfl, rfl⟩ := hr
  have hT : ({ s with heap := s.heap.push { cls := .type "bytearray", data := .bytearray #[] } } : Shared).TypeIs (.ref s.heap.objs.size) "bytearray" := ⟨_, Heap.get?_push_size _ rfl, rfl⟩
  refine cBind (cOf (wpAny_isInstance hT sub_ba ?_))
  refine cIteF rfl ?_
  refine cBind (cHolding ?_)
  simp only [callSpecial?]
  refine cBind (cOf (wpAny_specialOf hT init_ba.lookup ?_))
  simp only [init_ba.bind]
  refine cHolding (cBind (cPure (cBind (cCall (cTree (free_call _ _) ?_)))))
  show wpC _ _ (do checkBuiltinCall "bytearray.__init__" ⟨[.ref s.heap.objs.size, .int n t], []⟩; again (.builtin "bytearray.__init__" ⟨[.ref s.heap.objs.size, .int n t], []⟩)) _ _ _
  refine cBind (cOf (init_ba.check _ _ _ _ _ _ _ _ hT (by unfold argsOk; kernel_rfl) (cPure ⟨plainId_quiet init_ba.plain _, ?_⟩)))
  refine cBuiltin (free_init _ _ _) entry_init_ba ?_
  rw [Around.under_plainId init_ba.plain _]
  unfold Builtin.«bytearray.__init__»
  dsimp only
  refine cBind (cOf (ownRelease_ba hT ?_))
  refine cIteF rfl ?_
  refine cBind (cOf (wpAny_of_eq (bind_ba _) ?_))
  dsimp only
  refine cBind (cOf (wpAny_of_eq (a := ()) rfl ?_))
  refine cBind (cOf (wpAny_of_eq (a := ()) rfl ?_))
  refine cBind ?_
  unfold orM
  refine cBind (cExported ?_)
  have ho := (Heap.get?_push_size s.heap (o := { cls := .type "bytearray", data := .bytearray #[] }) rfl)
  have hix : typeLookup (.type "int") "__index__" = pure (some (.builtin "int.__index__")) := by rw [typeLookup_type, builtinLookup_eq_fast]; kernel_rfl
  have hk : Keeps s.heap (s.heap.push { cls := .type "bytearray", data := .bytearray #[] }) := fun _ _ e => Heap.get?_push_of_some _ e
  have hnew : s.heap.get? s.heap.objs.size = none := by
    cases q : s.heap.get? s.heap.objs.size with
    | none => rfl
    | some o => exact absurd (Heap.lt_size q) (Nat.lt_irrefl _)
  generalize s.heap.push { cls := .type "bytearray", data := .bytearray #[] } = h1 at ho hT hk ⊢
  refine cOf ?_
  show wpAny _ _ (Builtin.Bytes.exportsOf (Value.ref s.heap.objs.size) >>= fun x => pure (decide (x > 0))) _ _ _
  unfold Builtin.Bytes.exportsOf
  refine wpAny_bind (wpAny_bind (wpAny_load ho (wpAny_pure (wpAny_pure ?_))))
  refine cIteF rfl ?_
  refine cBind (cOf (write_ba ho (by simp) fun h2 hs2 ho2 => ?_))
  refine cBind (cOf (wpAny_of_eq (a := none) rfl ?_))
  refine cIteF rfl ?_
  refine cBind (cIteF rfl (cIteF rfl (cPure ?_)))
  refine cBind (cOf (wpAny_specialOf (typeIs_int _ n t) hix ?_))
  refine cIteT rfl ?_
  refine cBind (cOf (wpAny_attempt (wpAny_of_eq (rfl : asIndex (.int n t) = pure n) ?_)))
  dsimp only
  refine cIteF (by simp only [Builtin.Bytes.fitsIndex]; simp; omega) ?_
  rw [if_neg (by omega)]
  refine cIteF (by simp; omega) ?_
  refine cIteF (by simp only [Builtin.Bytes.tooLong]; have : (1000 : Nat) ≤ sizeLine := by decide
                   simp; omega) ?_
  refine cBind (cOf (wpAny_rule ?_))
  rw [if_pos (by omega)]
  refine cBind (cOf (write_ba ho2 (by rw [Array.size_replicate]; omega) fun h3 hs3 ho3 => ?_))
  refine cBind (cPure ?_)
  refine cPure (cPure ?_)
  refine cIteF rfl ?_
  refine cPure (h h3 (fun b o e => ?_) ho3)
  have hb : b ≠ s.heap.objs.size := fun q => by rw [q, hnew] at e; cases e
  exact (hs3.2 b hb).trans ((hs2.2 b hb).trans (hk b o e))

theorem nobytes_ba : typeLookup (.type "bytearray") "__bytes__" = pure none := by rw [typeLookup_type, builtinLookup_eq_fast]; kernel_rfl
theorem noindex_ba : typeLookup (.type "bytearray") "__index__" = pure none := by rw [typeLookup_type, builtinLookup_eq_fast]; kernel_rfl
theorem buffer_lk_ba : typeLookup (.type "bytearray") "__buffer__" = pure (some (.builtin "bytearray.__buffer__")) := by rw [typeLookup_type, builtinLookup_eq_fast]; kernel_rfl
theorem slotOwn_ba {M : Model} {a : Addr} {Q : Bool → Shared → Prop} (hT : s.TypeIs (.ref a) "bytearray") (h : Q true s) : wpAny M A (Builtin.Bytes.slotIsOwn (.ref a) "__buffer__") Q E s := by
  unfold Builtin.Bytes.slotIsOwn
  refine wpAny_bind (wpAny_specialOf hT buffer_lk_ba ?_)
  show wpAny _ _ (if (!("bytearray.__buffer__".endsWith ("." ++ "__buffer__"))) = true then _ else _) _ _ _
  refine bm_if_false (by decide +kernel) ?_
  refine wpAny_isInstance (U := "bytearray.__buffer__".dropRight ("__buffer__".length + 1)) hT (b := true) ?_ h
  rw [show ("bytearray.__buffer__".dropRight ("__buffer__".length + 1) : String) = "bytearray" from by decide +kernel]
  exact sub_ba
theorem payload_ba {M : Model} {a : Addr} {b : Array UInt8} {Q : Array UInt8 → Shared → Prop} (ho : s.heap.get? a = some (baObj b)) (h : Q b s) : wpAny M A (Builtin.Bytes.payload (.ref a)) Q E s := by
  unfold Builtin.Bytes.payload Builtin.Bytes.payload?
  exact wpAny_bind (wpAny_bind (wpAny_load ho (wpAny_pure (wpAny_pure h))))
theorem buffer_ba {M : Model} {a : Addr} {b : Array UInt8} {Q : Option (Array UInt8) → Shared → Prop} (ho : s.heap.get? a = some (baObj b)) (h : Q (some b) s) : wpAny M A (Builtin.Bytes.buffer? "bytes.__new__" (.ref a) true) Q E s := by
  have hT : s.TypeIs (.ref a) "bytearray" := ⟨_, ho, rfl⟩
  unfold Builtin.Bytes.buffer?
  refine wpAny_bind (wpAny_specialOf hT buffer_lk_ba ?_)
  refine wpAny_bind (slotOwn_ba hT ?_)
  refine bm_if_false rfl ?_
  refine wpAny_bind (wpAny_specialOf hT buffer_lk_ba ?_)
  refine wpAny_bind (ownRelease_ba hT ?_)
  refine bm_if_false rfl ?_
  exact wpAny_bind (payload_ba ho (wpAny_pure h))
theorem bytes_new_ba {a : Addr} {b : Array UInt8} {Q : Value → Shared → Prop} (ho : s.heap.get? a = some (baObj b)) (hz : b.size ≤ 1000)
    (hQ : ∀ t k, Q (.bytes b t) { s with toks := k }) : codeAny (model prog w) A (.call (.builtin "bytes.__new__") ⟨[.type "bytes", .ref a], []⟩) (wants Q E) s := by
  have hz' : b.size ≤ sizeLine := Nat.le_trans hz (by decide)
  refine codeAny_of_tree ?_
  show wpAny _ A.in1 (do checkBuiltinCall "bytes.__new__" ⟨[.type "bytes", .ref a], []⟩; again (.builtin "bytes.__new__" ⟨[.type "bytes", .ref a], []⟩)) _ _ s
  refine wpAny_bind (wpAny_of_eq (F.bm_newCall _) (wpAny_pure ⟨plainId_quiet F.bm_plain _, codeAny_builtin F.bm_entry ?_⟩))
  rw [Around.under_plainId F.bm_plain _]
  have hT : s.TypeIs (.ref a) "bytearray" := ⟨_, ho, rfl⟩
  unfold Builtin.«bytes.__new__»
  refine wpAny_bind (wpAny_of_eq (a := true) rfl ?_)
  refine bm_if_false rfl ?_
  refine wpAny_bind (wpAny_of_eq F.bm_sub ?_)
  refine bm_if_false rfl ?_
  refine wpAny_bind (wpAny_of_eq (F.bm_bind _) ?_)
  refine wpAny_bind (wpAny_of_eq (a := ()) rfl ?_)
  refine wpAny_bind (wpAny_of_eq (a := ()) rfl ?_)
  refine bm_if_false rfl ?_
  refine wpAny_bind (wpAny_specialOf hT nobytes_ba ?_)
  refine wpAny_bind (wpAny_bind ?_)
  show wpAny _ _ (load a >>= _) _ _ _
  refine wpAny_bind (wpAny_load ho ?_)
  refine wpAny_pure (wpAny_pure ?_)
  refine bm_if_false rfl ?_
  refine wpAny_bind (wpAny_specialOf hT noindex_ba ?_)
  refine bm_if_true rfl ?_
  refine wpAny_bind (buffer_ba ho ?_)
  refine wpAny_bind (wpAny_rule ?_)
  refine wpAny_bind (wpAny_mkBytes ?_ hz')
  show wpAny _ _ (if (Value.type "bytes" == Value.type "bytes") = true then _ else _) _ _ _
  refine bm_if_true (by decide) ?_
  exact wpAny_pure (hQ _ _)
theorem call_bytes_ba {a : Addr} {b : Array UInt8} {Q : Value → Shared → Prop} (ho : s.heap.get? a = some (baObj b)) (hz : b.size ≤ 1000)
    (hQ : ∀ t k, Q (.bytes b t) { s with toks := k }) : wpAny (model prog w) A (call (.type "bytes") [.ref a]) Q E s := by
  refine callType_codes (Q₁ := fun obj s₁ => s₁.TypeIs obj "bytes" ∧ Q obj s₁) F.bm_called (F.bm_typeCall _) F.entry_object_init
    (bytes_new_ba ho hz fun t k => ⟨PySem.W.typeIs_bytes _ _ _, hQ t k⟩) fun obj s₁ h₁ => ?_
  exact ⟨h₁.1, F.args_object_init_2 obj _, object_init_meets F.bm_called.init.lookup F.bm_called.made (by decide) prog w A.in1 _ s₁ ⟨h₁.1, rfl, h₁.2⟩⟩
theorem setslot_ba : Slot "bytearray" "__setitem__" "bytearray.__setitem__" :=
  .of (owner := "bytearray") (n := "__setitem__") (by rw [typeLookup_type, builtinLookup_eq_fast]; kernel_rfl) (by decide +kernel) (by decide +kernel) (by decide +kernel)
    (by first | exact .inl (by decide +kernel) | exact .inr (by decide +kernel)) (by rw [isSubtype_type]; kernel_rfl)
theorem setentry_ba : entryFor table "bytearray.__setitem__" = some Builtin.«bytearray.__setitem__» := entryFor_of_tree (by kernel_rfl)
theorem setargs_ba (a b c : Value) : argsOk "bytearray.__setitem__" ⟨[a, b, c], []⟩ := by unfold argsOk; kernel_rfl
theorem setItem_ba {a : Addr} {b : Array UInt8} {k v : Int} {t u : Tok} {Q : Unit → Shared → Prop} (ho : s.heap.get? a = some (baObj b)) (hz : b.size ≤ 1000) (h0 : 0 ≤ k) (h1 : k < b.size) (hv : 0 ≤ v) (hv2 : v < 256)
    (h : ∀ h', Heap.SameBut a s.heap h' → h'.get? a = some (baObj (b.setIfInBounds k.toNat v.toNat.toUInt8)) → Q () { s with heap := h' }) : wpAny (model prog w) A (setItem (.ref a) (.int k t) (.int v u)) Q E s := by
  have hT : s.TypeIs (.ref a) "bytearray" := ⟨_, ho, rfl⟩
  have hix : typeLookup (.type "int") "__index__" = pure (some (.builtin "int.__index__")) := by rw [typeLookup_type, builtinLookup_eq_fast]; kernel_rfl
  unfold setItem
  try with_reducible refine wpAny_holding ?_
  first | refine wpAny_bind (wpAny_pure ?_) | skip
  refine wpAny_bind (wpAny_sequenceKey hT (by decide) ?_)
  refine wpAny_bind (wpAny_callSpecial?_slot (name := Str.ofString "__setitem__") hT setslot_ba
    (wpAny_call_entry setslot_ba hT setentry_ba ?_ (setargs_ba _ _ _)))
  unfold Builtin.«bytearray.__setitem__»
  dsimp only
  refine bm_if_false rfl ?_
  unfold Builtin.Bytes.subscript?
  refine wpAny_bind (wpAny_bind (wpAny_specialOf (typeIs_int _ k t) hix ?_))
  refine bm_if_false rfl ?_
  refine wpAny_bind (wpAny_of_eq (rfl : asIndex (.int k t) = pure k) ?_)
  refine bm_if_false (by simp only [Builtin.Bytes.fitsIndex]; simp; omega) ?_
  refine wpAny_pure ?_
  dsimp only
  unfold Builtin.Bytes.byteValue
  refine wpAny_bind (wpAny_bind (wpAny_of_eq (rfl : asIndex (.int v u) = pure v) ?_))
  refine bm_if_false (by simp; omega) ?_
  refine wpAny_pure ?_
  refine wpAny_bind (payload_ba ho ?_)
  have e : seqIndex? k b.size = some k.toNat := by
    unfold seqIndex?
    simp
    omega
  rw [e]
  dsimp only
  refine wpAny_bind (write_ba ho (by simpa using hz) fun h' hs' ho' => ?_)
  exact wpAny_pure ⟨_, rfl, wpAny_pure (h h' hs' ho')⟩
end
/-- an object of the ledger changed alone -/
theorem frSet {h₀ h h' : Heap} {L r : Addr} {m : Str → Option Value} {pre : List (Addr × Obj)} {o o' : Obj} (F : Fr h₀ L h m) (N : News h₀ L h (pre ++ [(r, o)])) (h1 : ∀ p ∈ pre, p.1 ≠ r) (hs : Heap.SameBut r h h') (ho : h'.get? r = some o') :
    Fr h₀ L h' m ∧ News h₀ L h' (pre ++ [(r, o')]) := by
  have hr := N (r, o) (List.mem_append_right _ (.head _))
  refine ⟨⟨F.ns.sameBut hs (Ne.symm hr.2.1), fun b ob e => (hs.2 b (fun q => ?_)).trans (F.keep b ob e), F.above⟩, N.setAt h1 (fun _ hp => nomatch hp) hs ho⟩
  rw [q, hr.2.2] at e; cases e
theorem setBA {prog : Program} {w : World} {A : Around} {E : Value → Shared → Prop} {s : Shared} {h₀ : Heap} {L r : Addr} {m : Str → Option Value} {pre : List (Addr × Obj)} {b : Array UInt8} {k v : Int} {t u : Tok} {Q : Unit → Shared → Prop}
    (F : Fr h₀ L s.heap m) (N : News h₀ L s.heap (pre ++ [(r, baObj b)])) (hp : ∀ p ∈ pre, p.1 ≠ r) (hz : b.size ≤ 1000) (h0 : 0 ≤ k) (h1 : k < b.size) (hv : 0 ≤ v) (hv2 : v < 256)
    (h : ∀ h', Fr h₀ L h' m → News h₀ L h' (pre ++ [(r, baObj (b.setIfInBounds k.toNat v.toNat.toUInt8))]) → Q () { s with heap := h' }) : wpAny (model prog w) A (setItem (.ref r) (.int k t) (.int v u)) Q E s :=
  setItem_ba (N (r, _) (List.mem_append_right _ (.head _))).1 hz h0 h1 hv hv2 fun h' hs ho => have z := frSet F N hp hs ho; h h' z.1 z.2
end Mine
end
section
open PySem PySem.W PyProof.Rows PySem.Calls PySem.Spec PyProof.V
open Sem (wp)
set_option maxRecDepth 100000
set_option maxHeartbeats 8000000
namespace Mine
section
variable {prog : Program} {w : World} {A : Around} {s : Shared} {env : Env}
theorem cLoop {c : Code} {R : Result → Shared → Prop} (hf : Free c) (hq : c.quiet = true) (I : Nat → Shared → Prop)
    (turn : ∀ n s, I n s → wpC (model prog w) (A.under c) ((model prog w).den c)
      (fun fin s' => match fin with
        | .done f => R (.ok f) s'
        | .again c' => (c' = c ∧ ∃ m, m < n ∧ I m s') ∨ (c'.quiet = true ∧ codeC (model prog w) A c' R s')) (fun e s' => R (.error e) s') s)
    (n : Nat) (h : I n s) : codeC (model prog w) A c R s := by
  induction n using Nat.strongRecOn generalizing s with
  | ind n ih =>
    refine cTree hf (cMono (turn n s h) (fun fin s' hf => ?_) fun _ _ h' => h')
    cases fin with
    | done f => exact hf
    | again c' =>
      rcases hf with ⟨rfl, m, hm, hI⟩ | hf
      · exact ⟨hq, ih m hm hI⟩
      · exact hf
theorem cForLoop {R : Result → Shared → Prop} {target : Expr} {it : Value} {body : List Stmt} (I : Nat → Shared → Prop)
    (turn : ∀ n s, I n s → wpAny (model prog w) A (pyNext it) (fun r s₁ => match r with
      | none => R (.ok .next) s₁
      | some v => wpAny (model prog w) A (letOwnedTupleGo target it v) (fun _ s₁' =>
          wpAny (model prog w) A (assign target env v) (fun _ s₂ => wpC (model prog w) A (execs body env) (fun f s₃ => match f with
            | .next | .cont => ∃ m, m < n ∧ I m s₃
            | .brk => R (.ok .next) s₃
            | .ret v => R (.ok (.ret v)) s₃) No s₂) No s₁') No s₁) No s)
    (n : Nat) (h : I n s) : codeC (model prog w) A (.forLoop target it body [] env) R s := by
  refine cLoop (free_for _ _ _ _ _) rfl I (fun n s hI => ?_) n h
  show wpC _ A ((forTurn target it body [] env).onRaise (fun x => do noteFrame x env; theTreesLotGoes x)) _ _ s
  refine cOnRaise ?_
  simp only [forTurn]
  refine cBind (cOf (wpAny_standAt (cBind (cOnRaise (cOf (wpAny_mono (turn n s hI) (fun r s₁ h₁ => ?_) fun _ _ h' => h'.elim))))))
  cases r with
  | none => exact cPure (.inr ⟨rfl, cCodeOf (codeAny_block (wpAny_execs_nil h₁))⟩)
  | some v =>
    refine cBind (cOf (wpAny_mono h₁ (fun _ s₁' h₁' => ?_) fun _ _ h' => h'.elim))
    refine cBind (cOf (wpAny_mono h₁' (fun _ s₂ h₂ => cBind (cMono h₂ (fun f s₃ h₃ => ?_) fun _ _ h' => h'.elim)) fun _ _ h' => h'.elim))
    cases f with
    | next => exact cPure (.inl ⟨rfl, h₃⟩)
    | cont => exact cPure (.inl ⟨rfl, h₃⟩)
    | brk => exact cPure h₃
    | ret v => exact cPure h₃
theorem cFor {target iter : Expr} {body : List Stmt} {pos : Pos} {Q : Flow → Shared → Prop}
    (h : wpC (model prog w) A (eval iter env) (fun x s₁ => wpAny (model prog w) A (pyIter x) (fun it s₂ =>
      codeC (model prog w) A (.forLoop target it body [] env) (fun r s' => match r with | .ok f => Q f s' | .error _ => False) s₂) No s₁) No s)
    (hs : ∀ x, foldedSetIterable iter env x = pure x := by intro _; rfl) : wpC (model prog w) A (exec (.For target iter body [] pos) env) Q No s := by
  rw [exec_For]
  refine cBind (cOf (wpAny_standAt (cBind (cMono h (fun x s₁ h₁ => ?_) fun _ _ h' => h'))))
  rw [hs x]
  refine cBind (cPure (cBind (cOf (wpAny_standAt (cBind (cHolding (cOf (wpAny_mono h₁ (fun it s₂ h₂ => ?_) fun _ _ h' => h'))))))))
  unfold runOwn
  refine cOnRaise (cRun (cCodeMono h₂ fun r s' hr => ?_))
  cases r with
  | ok f => exact hr
  | error e => exact hr

/-- a loop on a clean stack -/
theorem cTurns {h₀ : Heap} {target : Expr} {body : List Stmt} {Q : Flow → Shared → Prop} {I : Addr} {fp wr : List Addr} {n : Nat} {P Md : Nat → Value → Heap → Prop} {St : Nat → Heap → Prop} {m : Str → Option Value} {news : List (Addr × Obj)} (W : KTurns prog w A target I fp wr n P Md St)
    (live : ∀ i h, St i h → ∀ b ∈ fp, ∃ o, h.get? b = some o)
    (hLf : env.locals ∉ fp) (hwr : ∀ b ∈ wr, h₀.get? b = none) (hst : St 0 s.heap) (F : Fr h₀ env.locals s.heap m) (N : News h₀ env.locals s.heap news) (hfp : ∀ p ∈ news, p.1 ∉ fp)
    (J : Nat → (Str → Option Value) → List (Addr × Obj) → Prop) (h0 : J 0 m news)
    (step : ∀ i v m₁ news₁ h₁ tk₁ own, i < n → P i v h₁ → J i m₁ news₁ → Apart own news₁ → (∀ q ∈ own, h₁.get? q.1 = some q.2) → Fr h₀ env.locals h₁ m₁ → News h₀ env.locals h₁ (own ++ news₁) →
      wpAny (model prog w) A (assign target env v) (fun _ s₃ => wpC (model prog w) A (execs body env)
        (EndS h₀ env.locals own (J (i + 1)) { s with heap := h₁, toks := tk₁ } (fun v s' => Q (.ret v) s') fun s' => Q .next s') No s₃) No { s with heap := h₁, toks := tk₁ })
    (done : ∀ h' tk m' news', Fr h₀ env.locals h' m' → News h₀ env.locals h' news' → J n m' news' → Q .next { s with heap := h', toks := tk }) :
    codeC (model prog w) A (.forLoop target (.ref I) body [] env) (fun r s' => match r with | .ok f => Q f s' | .error _ => False) s := by
  have hLw : env.locals ∉ wr := fun h => hLf (W.sub _ h)
  have old : ∀ b o, h₀.get? b = some o → b ∉ wr := fun b o e hb => by rw [hwr b hb] at e; cases e
  refine cForLoop
    (fun k s' => ∃ h' tk m' news' i, s' = { s with heap := h', toks := tk } ∧ St i h' ∧ Fr h₀ env.locals h' m' ∧ News h₀ env.locals h' news' ∧ (∀ p ∈ news', p.1 ∉ fp) ∧ J i m' news' ∧ i ≤ n ∧ k = n + 1 - i) ?_ (n + 1)
    ⟨s.heap, s.toks, m, news, 0, rfl, hst, F, N, hfp, h0, Nat.zero_le _, rfl⟩
  rintro k s' ⟨h', tk, m', news', i, rfl, hst', F', N', hnw', hJ, hi, rfl⟩
  have next : ∀ h₁ : Heap, (∀ b o, b ∉ wr → h'.get? b = some o → h₁.get? b = some o) → Fr h₀ env.locals h₁ m' ∧ News h₀ env.locals h₁ news' := fun h₁ hk₁ =>
    ⟨⟨F'.ns.at' fun o e => hk₁ _ o hLw e, fun b o e => hk₁ b o (old b o e) (F'.keep b o e), F'.above⟩, fun p hp => ⟨hk₁ _ _ (fun h => hnw' p hp (W.sub _ h)) (N' p hp).1, (N' p hp).2⟩⟩
  by_cases hlt : i < n
  · refine W.item i _ _ _ hlt hst' fun v h₁ tk₁ hMd hk₁ => ?_
    refine W.go i v _ _ _ hMd fun h₂ hP hst₂ hk₂ => ?_
    obtain ⟨F₂, N₂⟩ := next h₂ fun b o hb x => hk₂ b o hb (hk₁ b o hb x)
    have Nown : News h₀ env.locals h₂ (PyProof.Rows.ownOf h₀ fp h₂) := news_ownOf hLf
    have hsub := (ownOf_sub (h₀ := h₀) (fp := fp) (h := h₂))
    have hap : Apart (PyProof.Rows.ownOf h₀ fp h₂) news' := fun q hq p hp e => hnw' p hp (e ▸ hsub q hq)
    refine wpAny_mono (step i v m' news' h₂ tk₁ (PyProof.Rows.ownOf h₀ fp h₂) hlt hP hJ hap (fun p hp => (Nown p hp).1) F₂ (Nown.append N₂)) (fun _ s₂ h₂' => cMono h₂' (fun f s₃ h₃ => ?_) fun _ _ e => e) fun _ _ e => e
    have fin : (∃ h' tk m₂ news₂, s₃ = { s with heap := h', toks := tk } ∧ Fr h₀ env.locals h' m₂ ∧ News h₀ env.locals h' (PyProof.Rows.ownOf h₀ fp h₂ ++ news₂) ∧ Apart (PyProof.Rows.ownOf h₀ fp h₂) news₂ ∧ J (i + 1) m₂ news₂) →
        ∃ m, m < n + 1 - i ∧ ∃ h' tk m' news' j, s₃ = { s with heap := h', toks := tk } ∧ St j h' ∧ Fr h₀ env.locals h' m' ∧ News h₀ env.locals h' news' ∧ (∀ p ∈ news', p.1 ∉ fp) ∧ J j m' news' ∧ j ≤ n ∧ m = n + 1 - j := by
      rintro ⟨h₃', tk₃, m₂, news₂, rfl, F₃, N₃, ha₃, hJ₃⟩
      refine ⟨n + 1 - (i + 1), by omega, h₃', tk₃, m₂, news₂, i + 1, rfl, ?_, F₃, N₃.right, ?_, hJ₃, hlt, rfl⟩
      · refine W.frame _ _ _ hst₂ fun b hb o e => ?_
        cases hn : h₀.get? b with
        | some o₀ =>
          have : o₀ = o := by have q := F₂.keep b o₀ hn; rw [e] at q; exact (Option.some.inj q).symm
          exact this ▸ F₃.keep b o₀ hn
        | none => exact (N₃ _ (List.mem_append_left _ (mem_ownOf hb hn e))).1
      · intro p hp hb
        cases hn : h₀.get? p.1 with
        | some o => have := (N₃ p (List.mem_append_right _ hp)).2.2; rw [hn] at this; cases this
        | none =>
          obtain ⟨o, ho⟩ := live _ _ hst₂ _ hb
          exact ha₃ _ (mem_ownOf hb hn ho) p hp rfl
    cases f with
    | ret v => exact h₃
    | brk => exact h₃
    | cont => exact fin h₃
    | next => exact fin h₃
  · have hin : i = n := by omega
    subst hin
    refine W.done _ _ _ hst' fun h₁ tk₁ hk₁ => ?_
    obtain ⟨F₁, N₁⟩ := next h₁ hk₁
    exact done h₁ tk₁ m' news' F₁ N₁ hJ
end
section
variable {w : World} {A : Around} {s : Shared} {env : Env} {h₀ : Heap} {body : List Stmt} {Q : Flow → Shared → Prop} {target : Expr}
theorem keysC {d : Addr} {D : List (Int × Int)} {m : Str → Option Value} {news : List (Addr × Obj)} (hh : A.handled = none)
    (F : Fr h₀ env.locals s.heap m) (N : News h₀ env.locals s.heap news) (hD : IsD w s.heap d D) (hdL : d ≠ env.locals) (hdn : ∀ p ∈ news, p.1 ≠ d)
    (J : Nat → (Str → Option Value) → List (Addr × Obj) → Prop) (h0 : J 0 m news)
    (step : ∀ i k v u h₁ m₁ news₁ tk₁ own, D[i]? = some (k, v) → J i m₁ news₁ → Apart own news₁ → (∀ q ∈ own, h₁.get? q.1 = some q.2) → Fr h₀ env.locals h₁ m₁ → News h₀ env.locals h₁ (own ++ news₁) →
      wpAny (model PySem.Challenge.rw_xp0024_01.row.prog w) A (assign target env (.int k u)) (fun _ s₃ => wpC (model PySem.Challenge.rw_xp0024_01.row.prog w) A (execs body env)
        (EndS h₀ env.locals own (J (i + 1)) { s with heap := h₁, toks := tk₁ } (fun v s' => Q (.ret v) s') fun s' => Q .next s') No s₃) No { s with heap := h₁, toks := tk₁ })
    (done : ∀ h' tk m' news', Fr h₀ env.locals h' m' → News h₀ env.locals h' news' → J D.length m' news' → Q .next { s with heap := h', toks := tk }) :
    wpAny (model PySem.Challenge.rw_xp0024_01.row.prog w) A (pyIter (.ref d)) (fun it s₂ =>
      codeC (model PySem.Challenge.rw_xp0024_01.row.prog w) A (.forLoop target it body [] env) (fun r s' => match r with | .ok f => Q f s' | .error _ => False) s₂) No s := by
  obtain ⟨lo, kvs, hdo, hf⟩ := hD
  obtain ⟨ep, hat⟩ := hdo.dictAt
  have hne : d ≠ s.heap.objs.size := Nat.ne_of_lt hat.lt_size
  have hlen : D.length = kvs.length := by have := hf.length; unfold enc at this; rw [List.length_map] at this; exact this
  refine wpAny_pyIter_dict lo hat ?_
  refine cTurns (s := { s with heap := _ }) (KTurns.ofWalks (Walks.dictKeys (knd := IK w) hh s.heap.objs.size d hne kvs ep) fun i v s Q E st q => letGo_keyiter st.1 q) ?_ ?_ ?_ ⟨⟨_, Heap.get?_push_size _ rfl, rfl, rfl⟩, hat.push _⟩ (F.push _) (fun p hp => ⟨Heap.get?_push_of_some _ (N p hp).1, (N p hp).2⟩) ?_ J h0 ?_ (hlen ▸ done)
  · rintro i h ⟨⟨oi, he, _⟩, hm⟩ b hb
    rcases List.mem_cons.mp hb with rfl | hb
    · exact ⟨_, he⟩
    · obtain ⟨o, _, ho, _⟩ := hm
      exact ⟨o, List.mem_singleton.mp hb ▸ ho⟩
  · intro hb
    rcases List.mem_cons.mp hb with e | hb
    · exact absurd F.ns.lt (e ▸ Nat.lt_irrefl _)
    · exact hdL (List.mem_singleton.mp hb).symm
  · intro b hb
    rw [List.mem_singleton.mp hb]
    exact next_is_new F
  · intro p hp hb
    rcases List.mem_cons.mp hb with e | hb
    · exact absurd (Heap.lt_size (N p hp).1) (e ▸ Nat.lt_irrefl _)
    · exact hdn p hp (List.mem_singleton.mp hb)
  · rintro i v m₁ news₁ h₁ tk₁ own hi ⟨k, x, hx, hk⟩ hJ hap hown F₁ N₁
    obtain ⟨v', u, hD', rfl⟩ := flat_at hf hx
    obtain ⟨t, rfl⟩ := Value.isInt_shape (k := k) hk
    exact step i k v' t h₁ m₁ news₁ tk₁ own hD' hJ hap hown F₁ N₁
end
end Mine
end
section
open PySem PySem.W PyProof.Rows PySem.Calls PySem.Spec
set_option maxRecDepth 100000
set_option maxHeartbeats 8000000
namespace Mine
theorem imul_spec {w : World} {mg mb : Str → Option Value} {s : Shared} (O : Ok w mg mb s.heap) (a b : Int) (t u : Tok) (hm : IntMulOk a b) :
    Spec w 101 [.int a t, .int b u] s 1 8 (fun v _ => ∃ t', v = .int (a * b) t') := by
  unfold Spec
  intro dp un fr gs Q hR hQ
  obtain ⟨X, T⟩ := O
  revert X; k_fill; intro X
  refine wpAny_call ?_
  k_dflt (refine' enterX X T [(Str.ofString "a", .int a t), (Str.ofString "b", .int b u)] ?k6 ?k7 ?k8 ?k9 ?kB ?kN ?_ ?c2 ?c3 ?c4 ?c5; (case k6 => k_is); (case k7 => k_is); (case k8 => (have := hR.d; dsimp only at this ⊢; omega)); (case k9 => exact rfl); (case c5 => decide); (case kB => exact locs rfl); (case kN => (dsimp only [List.map]; decide)); (case c2 => exact rfl); (case c3 => exact rfl); (case c4 => exact rfl); k_whole; intro h' F' N'; (try dsimp only))
  k_fold
  have hRd := fun env => Room.deeper (env := env) hR
  k_steps
  all_goals exact hQ _ _ _ (Fr.keep (by assumption)) ⟨_, rfl⟩
theorem iadd_spec {w : World} {mg mb : Str → Option Value} {s : Shared} (O : Ok w mg mb s.heap) (a b : Int) (t u : Tok) :
    Spec w 94 [.int a t, .int b u] s 1 8 (fun v _ => ∃ t', v = .int (a + b) t') := by
  unfold Spec
  intro dp un fr gs Q hR hQ
  obtain ⟨X, T⟩ := O
  revert X; k_fill; intro X
  refine wpAny_call ?_
  k_dflt (refine' enterX X T [(Str.ofString "a", .int a t), (Str.ofString "b", .int b u)] ?k6 ?k7 ?k8 ?k9 ?kB ?kN ?_ ?c2 ?c3 ?c4 ?c5; (case k6 => k_is); (case k7 => k_is); (case k8 => (have := hR.d; dsimp only at this ⊢; omega)); (case k9 => exact rfl); (case c5 => decide); (case kB => exact locs rfl); (case kN => (dsimp only [List.map]; decide)); (case c2 => exact rfl); (case c3 => exact rfl); (case c4 => exact rfl); k_whole; intro h' F' N'; (try dsimp only))
  k_fold
  have hRd := fun env => Room.deeper (env := env) hR
  k_steps
  all_goals exact hQ _ _ _ (Fr.keep (by assumption)) ⟨_, rfl⟩
theorem isub_spec {w : World} {mg mb : Str → Option Value} {s : Shared} (O : Ok w mg mb s.heap) (a b : Int) (t u : Tok) :
    Spec w 115 [.int a t, .int b u] s 1 8 (fun v _ => ∃ t', v = .int (a - b) t') := by
  unfold Spec
  intro dp un fr gs Q hR hQ
  obtain ⟨X, T⟩ := O
  revert X; k_fill; intro X
  refine wpAny_call ?_
  k_dflt (refine' enterX X T [(Str.ofString "a", .int a t), (Str.ofString "b", .int b u)] ?k6 ?k7 ?k8 ?k9 ?kB ?kN ?_ ?c2 ?c3 ?c4 ?c5; (case k6 => k_is); (case k7 => k_is); (case k8 => (have := hR.d; dsimp only at this ⊢; omega)); (case k9 => exact rfl); (case c5 => decide); (case kB => exact locs rfl); (case kN => (dsimp only [List.map]; decide)); (case c2 => exact rfl); (case c3 => exact rfl); (case c4 => exact rfl); k_whole; intro h' F' N'; (try dsimp only))
  k_fold
  have hRd := fun env => Room.deeper (env := env) hR
  k_steps
  all_goals exact hQ _ _ _ (Fr.keep (by assumption)) ⟨_, rfl⟩
theorem ipow_spec {w : World} {mg mb : Str → Option Value} {s : Shared} (O : Ok w mg mb s.heap) (a b : Int) (t u : Tok) (hn : 0 ≤ b) (hsz : (Builtin.Int.intBits a : Int) * b ≤ 2 ^ 27) :
    Spec w 108 [.int a t, .int b u] s 1 8 (fun v _ => ∃ t', v = .int (a ^ b.toNat) t') := by
  unfold Spec
  intro dp un fr gs Q hR hQ
  obtain ⟨X, T⟩ := O
  revert X; k_fill; intro X
  refine wpAny_call ?_
  k_dflt (refine' enterX X T [(Str.ofString "a", .int a t), (Str.ofString "b", .int b u)] ?k6 ?k7 ?k8 ?k9 ?kB ?kN ?_ ?c2 ?c3 ?c4 ?c5; (case k6 => k_is); (case k7 => k_is); (case k8 => (have := hR.d; dsimp only at this ⊢; omega)); (case k9 => exact rfl); (case c5 => decide); (case kB => exact locs rfl); (case kN => (dsimp only [List.map]; decide)); (case c2 => exact rfl); (case c3 => exact rfl); (case c4 => exact rfl); k_whole; intro h' F' N'; (try dsimp only))
  k_fold
  have hRd := fun env => Room.deeper (env := env) hR
  k_steps
  refine PyProof.Rows.ipow_int hn hsz ?_
  k_steps
  all_goals exact hQ _ _ _ (Fr.keep (by assumption)) ⟨_, rfl⟩
end Mine
end
section
open PySem PySem.W PyProof.Rows PySem.Calls PySem.Spec PyProof.V
set_option maxRecDepth 100000
set_option maxHeartbeats 8000000
namespace Mine
local macro_rules | `(tactic| walk_at "exec For Tuple Call") => `(tactic| refine stop_here ?_)
theorem add_callers_spec {w : World} {mg mb : Str → Option Value} {s : Shared} (O : Ok w mg mb s.heap) {t u : Addr} {d₁ d₂ : List (Int × Int)} (h₁ : IsD w s.heap t d₁) (h₂ : IsD w s.heap u d₂) (hl : d₁.length + d₂.length ≤ 1000) :
    Spec w 122 [.ref t, .ref u] s 1 8 (fun v h => ∃ r, v = .ref r ∧ IsD w h r (addc d₁ d₂) ∧ s.heap.get? r = none) := by
  unfold Spec
  intro dp un fr gs Q hR hQ
  have hq1 : Unit → IsD w s.heap t d₁ := fun _ => h₁
  have hq2 : Unit → IsD w s.heap u d₂ := fun _ => h₂
  obtain ⟨X, T⟩ := O
  revert X; k_fill; intro X
  refine wpAny_call ?_
  k_dflt (refine' enterX X T [(Str.ofString "target", .ref t), (Str.ofString "source", .ref u)] ?k6 ?k7 ?k8 ?k9 ?kB ?kN ?_ ?c2 ?c3 ?c4 ?c5; (case k6 => k_is); (case k7 => k_is); (case k8 => (have := hR.d; dsimp only at this ⊢; omega)); (case k9 => exact rfl); (case c5 => decide); (case kB => exact locs rfl); (case kN => (dsimp only [List.map]; decide)); (case c2 => exact rfl); (case c3 => exact rfl); (case c4 => exact rfl); k_whole; intro h' F' N'; (try dsimp only))
  k_fold
  have hRd := fun env => Room.deeper (env := env) hR
  k_steps
  rename Fr _ _ _ _ => F; rename News _ _ _ _ => N
  refine go_on ?_
  refine forT F ?_
  k_steps
  refine callItems ((hq1 ()).keeps F.keep) F N ?_
  intro h2 k2 hvw F2 N2
  (try dsimp only)
  rename Obj.IsDictOf (intKind _ _) _ _ => hi0
  rename FlatPairs PyData.int _ _ => hf0
  rename (_ == sysModules) = false => lo0
  rename (Addr) => r
  obtain ⟨ot, hot⟩ := (hq1 ()).live
  refine itemsAt (D := d₁) (hRd _).h F2 N2 hvw ((hq1 ()).keeps F2.keep) (Nat.ne_of_lt (Heap.lt_size hot)) ?dn
    (fun i m news => m (Str.ofString "new_callers") = some (.ref _) ∧ m (Str.ofString "target") = some (.ref t) ∧ m (Str.ofString "source") = some (.ref u) ∧ ∃ o kvs, news = [(_, o)] ∧ o.IsDictOf (IK w) kvs ∧ FlatPairs PyData.int kvs (enc (d₁.take i)))
    ⟨rfl, rfl, rfl, _, _, rfl, hi0, hf0⟩ ?step ?done
  case dn =>
    intro p hp e
    rw [List.mem_singleton.mp hp] at e
    have := (N _ (List.mem_singleton.mpr rfl)).2.2
    rw [e, hot] at this; cases this
  case step =>
    rintro i k v t' u' T' m₁ news₁ h3 tk3 own hi hT ⟨hm1, hm2, hm3, o, kvs, rfl, hio, hfo⟩ hap hown F3 N3
    clear F N F2 N2
    have F4 := Fr.ov (l := [(Str.ofString "new_callers", _), (Str.ofString "target", _), (Str.ofString "source", _)]) F3 (by intro p hp; simp only [List.mem_cons, List.not_mem_nil, or_false] at hp; rcases hp with rfl | rfl | rfl <;> assumption)
    clear F3
    k_steps
    rename Fr _ _ _ _ => F; rename News _ _ _ _ => N
    refine setI (post := []) F N (fun q hq e => hap q hq _ (.head _) e) (fun _ hp => nomatch hp) hio hfo (by rw [List.length_take]; omega) ?_
    intro h5 o5 kvs5 F5 N5 hio5 hfo5
    clear F N
    k_steps
    exact EndS.next [(r, o5)] (by assumption) (by assumption) (fun q hq p hp => by rw [List.mem_singleton.mp hp]; exact hap q hq (r, o) (.head _)) ⟨rfl, rfl, rfl, o5, kvs5, rfl, hio5, by rw [← put_take (hq1 ()).nodup hi]; exact hfo5⟩
  case done =>
    rintro h3 tk3 m₁ news₁ F3 N3 ⟨hm1, hm2, hm3, o, kvs, rfl, hio, hfo⟩
    clear F N F2 N2
    have F4 := Fr.ov (l := [(Str.ofString "new_callers", _), (Str.ofString "target", _), (Str.ofString "source", _)]) F3 (by intro p hp; simp only [List.mem_cons, List.not_mem_nil, or_false] at hp; rcases hp with rfl | rfl | rfl <;> assumption)
    clear F3
    rw [List.take_length] at hfo
    k_steps
    rename Fr _ _ _ _ => F; rename News _ _ _ _ => N
    refine go_on ?_
    refine forT F ?_
    k_steps
    refine callItems ((hq2 ()).keeps F.keep) F N ?_
    intro h4 k4 hvw4 F4 N4
    (try dsimp only)
    obtain ⟨ou, hou⟩ := (hq2 ()).live
    refine itemsAt (D := d₂) (hRd _).h F4 N4 hvw4 ((hq2 ()).keeps F4.keep) (Nat.ne_of_lt (Heap.lt_size hou)) ?dn2
      (fun i m news => m (Str.ofString "new_callers") = some (.ref r) ∧ ∃ o kvs, news = [(r, o)] ∧ o.IsDictOf (IK w) kvs ∧ FlatPairs PyData.int kvs (enc (addc d₁ (d₂.take i))))
      ⟨rfl, _, _, rfl, hio, hfo⟩ ?step2 ?done2
    case dn2 =>
      intro p hp e
      rw [List.mem_singleton.mp hp] at e
      have := (N _ (List.mem_singleton.mpr rfl)).2.2
      rw [e, hou] at this; cases this
    case step2 =>
      rintro i k v t' u' T' m₁ news₁ h3 tk3 own hi hT ⟨hm1, o, kvs, rfl, hio, hfo⟩ hap hown F3 N3
      clear F N F4 N4
      have F4 := Fr.ov (l := [(Str.ofString "new_callers", _)]) F3 (by intro p hp; simp only [List.mem_cons, List.not_mem_nil, or_false] at hp; rcases hp with rfl <;> assumption)
      clear F3
      k_steps
      · rename (Option.isSome _ = true) => hc
        rw [lookup_enc] at hc
        rename Fr _ _ _ _ => F; rename News _ _ _ _ => N
        cases hg : gt (addc d₁ (d₂.take i)) k with
        | none => rw [hg] at hc; cases hc
        | some v₀ =>
        refine getI (IsD.ofN N (List.mem_append_right _ (List.mem_singleton.mpr rfl)) lo0 hio hfo) hg ?_
        intro u₀
        k_steps
        refine setI (post := []) F N (fun q hq e => hap q hq _ (.head _) e) (fun _ hp => nomatch hp) hio hfo (by have := addc_length d₁ (d₂.take i); rw [List.length_take] at this; omega) ?_
        intro h5 o5 kvs5 F5 N5 hio5 hfo5
        clear F N
        k_steps
        exact EndS.next [(r, o5)] (by assumption) (by assumption) (fun q hq p hp => by rw [List.mem_singleton.mp hp]; exact hap q hq (r, o) (.head _)) ⟨rfl, o5, kvs5, rfl, hio5, by rw [addc_take hi]; unfold addOne; rw [hg]; exact hfo5⟩
      · rename (Option.isSome _ = false) => hc
        rw [lookup_enc] at hc
        rename Fr _ _ _ _ => F; rename News _ _ _ _ => N
        have hg : gt (addc d₁ (d₂.take i)) k = none := by
          cases hg : gt (addc d₁ (d₂.take i)) k with
          | none => rfl
          | some v₀ => rw [hg] at hc; cases hc
        refine setI (post := []) F N (fun q hq e => hap q hq _ (.head _) e) (fun _ hp => nomatch hp) hio hfo (by have := addc_length d₁ (d₂.take i); rw [List.length_take] at this; omega) ?_
        intro h5 o5 kvs5 F5 N5 hio5 hfo5
        clear F N
        k_steps
        exact EndS.next [(r, o5)] (by assumption) (by assumption) (fun q hq p hp => by rw [List.mem_singleton.mp hp]; exact hap q hq (r, o) (.head _)) ⟨rfl, o5, kvs5, rfl, hio5, by rw [addc_take hi]; unfold addOne; rw [hg]; exact hfo5⟩
    case done2 =>
      rintro h3 tk3 m₁ news₁ F3 N3 ⟨hm1, o, kvs, rfl, hio, hfo⟩
      clear F N F4 N4
      have F4 := Fr.ov (l := [(Str.ofString "new_callers", _)]) F3 (by intro p hp; simp only [List.mem_cons, List.not_mem_nil, or_false] at hp; rcases hp with rfl <;> assumption)
      clear F3
      rw [List.take_length] at hfo
      k_steps
      rename Fr _ _ _ _ => F; rename News _ _ _ _ => N
      exact hQ _ _ _ F.keep ⟨r, rfl, IsD.ofN N (List.mem_singleton.mpr rfl) lo0 hio hfo, (N _ (List.mem_singleton.mpr rfl)).2.2⟩
end Mine
end
section
open PySem PySem.W PyProof.Rows PySem.Calls PySem.Spec PyProof.V
set_option maxRecDepth 100000
set_option maxHeartbeats 8000000
namespace Mine
local macro_rules | `(tactic| walk_at "exec For Name Call") => `(tactic| refine stop_here ?_)
local macro_rules | `(tactic| walk_at "exec For Name Call cons nil") => `(tactic| refine stop_here ?_)
def sumv (d : List (Int × Int)) : Int := (d.map (·.2)).sum
theorem sumv_take {d : List (Int × Int)} {i : Nat} {k v : Int} (h : d[i]? = some (k, v)) : sumv (d.take (i + 1)) = sumv (d.take i) + v := by
  unfold sumv
  rw [List.take_add_one, h]
  simp
theorem count_calls_spec {w : World} {mg mb : Str → Option Value} {s : Shared} (O : Ok w mg mb s.heap) {t : Addr} {d : List (Int × Int)} (h₁ : IsD w s.heap t d) :
    Spec w 129 [.ref t] s 1 8 (fun v _ => ∃ u, v = .int (sumv d) u) := by
  unfold Spec
  intro dp un fr gs Q hR hQ
  have hq1 : Unit → IsD w s.heap t d := fun _ => h₁
  obtain ⟨X, T⟩ := O
  revert X; k_fill; intro X
  refine wpAny_call ?_
  k_dflt (refine' enterX X T [(Str.ofString "callers", .ref t)] ?k6 ?k7 ?k8 ?k9 ?kB ?kN ?_ ?c2 ?c3 ?c4 ?c5; (case k6 => k_is); (case k7 => k_is); (case k8 => (have := hR.d; dsimp only at this ⊢; omega)); (case k9 => exact rfl); (case c5 => decide); (case kB => exact locs rfl); (case kN => (dsimp only [List.map]; decide)); (case c2 => exact rfl); (case c3 => exact rfl); (case c4 => exact rfl); k_whole; intro h' F' N'; (try dsimp only))
  k_fold
  have hRd := fun env => Room.deeper (env := env) hR
  k_steps
  rename Fr _ _ _ _ => F; rename News _ _ _ _ => N
  refine go_on ?_
  refine forT F ?_
  k_steps
  refine callValues ((hq1 ()).keeps F.keep) F N ?_
  intro h2 k2 hvw F2 N2
  (try dsimp only)
  obtain ⟨ot, hot⟩ := (hq1 ()).live
  refine valuesAt (D := d) (hRd _).h F2 N2 hvw ((hq1 ()).keeps F2.keep) (Nat.ne_of_lt (Heap.lt_size hot)) (fun _ hp => nomatch hp)
    (fun i m news => (∃ u, m (Str.ofString "nc") = some (.int (sumv (d.take i)) u)) ∧ news = [])
    ⟨⟨_, rfl⟩, rfl⟩ ?step ?done
  case step =>
    rintro i k v u h3 hi m₁ news₁ tk3 own ⟨⟨u0, hm1⟩, rfl⟩ hap hown F3 N3
    clear F N F2 N2
    have F4 := Fr.ov (l := [(Str.ofString "nc", _)]) F3 (by intro p hp; simp only [List.mem_cons, List.not_mem_nil, or_false] at hp; rcases hp with rfl; assumption)
    clear F3
    k_steps
    rename Fr _ _ _ _ => F; rename News _ _ _ _ => N
    exact EndS.next [] F N (fun _ _ _ hp => nomatch hp) ⟨⟨_, by rw [sumv_take hi]; rfl⟩, rfl⟩
  case done =>
    rintro h3 tk3 m₁ news₁ F3 N3 ⟨⟨u0, hm1⟩, rfl⟩
    clear F N F2 N2
    have F4 := Fr.ov (l := [(Str.ofString "nc", _)]) F3 (by intro p hp; simp only [List.mem_cons, List.not_mem_nil, or_false] at hp; rcases hp with rfl; assumption)
    clear F3
    rw [List.take_length] at F4
    k_steps
    rename Fr _ _ _ _ => F; rename News _ _ _ _ => N
    exact hQ _ _ _ F.keep ⟨_, rfl⟩
end Mine
end
section
open PySem PySem.W PyProof.Rows PySem.Calls PySem.Spec PyProof.V
set_option maxRecDepth 100000
set_option maxHeartbeats 8000000
namespace Mine
local macro_rules | `(tactic| walk_at "exec For Name Call") => `(tactic| refine stop_here ?_)
local macro_rules | `(tactic| walk_at "exec For Name Call cons nil") => `(tactic| refine stop_here ?_)
/-- the first 3 i bytes turned by threes, of the next three the last j, nought else -/
def swIn (b : List UInt8) (i j : Nat) : List UInt8 := (List.range b.length).map fun p => if p < 3 * i ∨ (p < 3 * i + 3 ∧ 3 * i + 3 ≤ p + j) then b.getD (3 * (p / 3) + 2 - p % 3) 0 else 0
theorem swIn_length (b : List UInt8) (i j : Nat) : (swIn b i j).length = b.length := by simp [swIn]
theorem swIn_set {b : List UInt8} {i j : Nat} (hj : j < 3) (hi : 3 * i + 3 ≤ b.length) : (swIn b i j).set (3 * i + 2 - j) (b.getD (3 * i + j) 0) = swIn b i (j + 1) := by
  apply List.ext_getElem
  · simp [swIn]
  · intro p h1 h2
    rw [List.getElem_set]
    simp only [swIn, List.getElem_map, List.getElem_range]
    by_cases e : 3 * i + 2 - j = p
    · rw [if_pos e, if_pos (by omega)]
      have : 3 * i + j = 3 * (p / 3) + 2 - p % 3 := by omega
      rw [this]
    · rw [if_neg e]
      by_cases c : p < 3 * i ∨ (p < 3 * i + 3 ∧ 3 * i + 3 ≤ p + j)
      · rw [if_pos c, if_pos (by omega)]
      · rw [if_neg c, if_neg (by omega)]
theorem swIn_next (b : List UInt8) (i : Nat) : swIn b i 3 = swIn b (i + 1) 0 := by
  unfold swIn
  apply List.map_congr_left
  intro p _
  by_cases c : p < 3 * i ∨ (p < 3 * i + 3 ∧ 3 * i + 3 ≤ p + 3)
  · rw [if_pos c, if_pos (by omega)]
  · rw [if_neg c, if_neg (by omega)]
theorem swIn_zero (b : List UInt8) : swIn b 0 0 = List.replicate b.length 0 := by
  apply List.ext_getElem
  · simp [swIn]
  · intro p h1 h2
    simp only [swIn, List.getElem_map, List.getElem_range, List.getElem_replicate]
    rw [if_neg (by omega)]
theorem byteswap_spec {w : World} {mg mb : Str → Option Value} {s : Shared} (O : Ok w mg mb s.heap) (b : List UInt8) (k : Nat) (hb : b.length = 3 * k) (hk : 1 ≤ k) (hk2 : k ≤ 3) (t u : Tok) :
    SpecC w 136 [.bytes b.toArray t, .int 3 u] s 1 30 (fun v _ => ∃ t', v = .bytes (swIn b k 0).toArray t') := by
  unfold SpecC
  intro dp un fr gs Q hR hQ
  obtain ⟨X, T⟩ := O
  revert X; k_fill; intro X
  refine cCall ?_
  k_dflt (refine' cEnterX X T [(Str.ofString "data", .bytes b.toArray t), (Str.ofString "width", .int 3 u)] ?k6 ?k7 ?k8 ?k9 ?kB ?kN ?_ ?c2 ?c3 ?c4 ?c5; (case k6 => k_is); (case k7 => k_is); (case k8 => (have := hR.d; dsimp only at this ⊢; omega)); (case k9 => exact rfl); (case c5 => decide); (case kB => exact locs rfl); (case kN => (dsimp only [List.map]; decide)); (case c2 => exact rfl); (case c3 => exact rfl); (case c4 => exact rfl); k_whole; intro h' F' N'; (try dsimp only))
  have hRd := fun env => Room.deeper (env := env) hR
  refine cExecs (cAssign (cCall1 .machine (.inr rfl) (cOf ?_)))
  k_steps
  refine cOf ?_
  k_steps
  refine go_on ⟨fun Q' h => keeper_type Q' h, call_ba ?_ ?_ ?_⟩
  · simp; omega
  · simp; omega
  intro h2 hk2' ho2
  (try dsimp only at hk2' ho2)
  rename Fr _ _ _ _ => F; rename News _ _ _ _ => N
  have N2 := newsNew F N hk2' ho2
  have F2 := Fr.later F hk2'
  generalize h'.objs.size = sw at N2 ⊢
  clear F N ho2
  refine cOf ?_
  k_steps
  refine cOf ?_
  k_steps
  rename Fr _ _ _ _ => F; rename News _ _ _ _ => N
  refine go_on ?_
  refine forT F ?_
  k_steps
  rename (IsRange _ _ _ _ _ _ _ _) => hr1
  rename Fr _ _ _ _ => F1; rename News _ _ _ _ => N1
  have e0 : Array.replicate (((b.toArray.size : Nat) : Int)).toNat (0 : UInt8) = (swIn b 0 0).toArray := by rw [swIn_zero]; simp
  rw [e0] at N1
  have hsz : ((b.toArray.size : Nat) : Int) = 3 * (k : Int) := by simp; omega
  rw [hsz] at hr1
  (try dsimp only)
  refine rangeAt (n := k) rfl F1 N1 hr1 (range_small (by omega) (by omega) (by omega) (by omega) (by omega)) (by unfold Builtin.Range.rangeSize; split <;> (try split) <;> omega)
    (fun i m news => m (Str.ofString "data") = some (.bytes b.toArray t) ∧ m (Str.ofString "width") = some (.int 3 u) ∧ m (Str.ofString "swapped_data") = some (.ref sw) ∧ news = [(sw, baObj (swIn b i 0).toArray)])
    ⟨rfl, rfl, rfl, rfl⟩ ?step ?done
  case step =>
    rintro i ti h3 hi m₁ news₁ tk3 own ⟨hm1, hm2, hm3, rfl⟩ hap hown F3 N3
    clear F1 N1 hr1
    have F4 := Fr.ov (l := [(Str.ofString "data", _), (Str.ofString "width", _), (Str.ofString "swapped_data", _)]) F3 (by intro p hp; simp only [List.mem_cons, List.not_mem_nil, or_false] at hp; rcases hp with rfl | rfl | rfl <;> assumption)
    clear F3
    k_steps
    rename Fr _ _ _ _ => F; rename News _ _ _ _ => N
    refine go_on ?_
    refine forT F ?_
    k_steps
    rename (IsRange _ _ _ _ _ _ _ _) => hr1
    rename Fr _ _ _ _ => F1; rename News _ _ _ _ => N1
    (try dsimp only)
    refine rangeAt (n := 3) rfl F1 N1 hr1 (by decide) (by decide)
      (fun j m news => m (Str.ofString "data") = some (.bytes b.toArray t) ∧ m (Str.ofString "width") = some (.int 3 u) ∧ m (Str.ofString "swapped_data") = some (.ref sw) ∧ m (Str.ofString "i") = some (.int (0 + (i : Int) * 3) ti) ∧ news = own ++ [(sw, baObj (swIn b i j).toArray)])
      ⟨rfl, rfl, rfl, rfl, rfl⟩ ?step2 ?done2
    case step2 =>
      rintro j tj h5 hj m₅ news₅ tk5 own5 ⟨hm1, hm2, hm3, hm4, rfl⟩ hap5 hown5 F5 N5
      clear F1 N1 hr1
      have F6 := Fr.ov (l := [(Str.ofString "data", _), (Str.ofString "width", _), (Str.ofString "swapped_data", _), (Str.ofString "i", _)]) F5 (by intro p hp; simp only [List.mem_cons, List.not_mem_nil, or_false] at hp; rcases hp with rfl | rfl | rfl | rfl <;> assumption)
      clear F5
      have hg : ∃ h : 3 * i + j < b.toArray.size, True := ⟨by simp; omega, trivial⟩
      k_steps
      rename Fr _ _ _ _ => F; rename News _ _ _ _ => N
      dsimp only
      refine setBA (pre := own5 ++ own) F (by rw [List.append_assoc]; exact N) ?_ ?_ ?_ ?_ ?_ ?_ ?_
      · intro p hp
        rcases List.mem_append.mp hp with hp | hp
        · exact hap5 p hp (sw, _) (List.mem_append_right _ (.head _))
        · exact hap p hp (sw, _) (.head _)
      · rw [List.size_toArray, swIn_length]; omega
      · omega
      · rw [List.size_toArray, swIn_length]; omega
      · exact Int.natCast_nonneg _
      · have := (b.getD (0 + (i : Int) * 3 + (0 + (j : Int) * 1)).toNat 0).toNat_lt
        omega
      · intro h7 F7 N7
        clear F N
        have e1 : (0 + (i : Int) * 3 + 3 - 1 - (0 + (j : Int) * 1)).toNat = 3 * i + 2 - j := by omega
        have e2 : (0 + (i : Int) * 3 + (0 + (j : Int) * 1)).toNat = 3 * i + j := by omega
        have e3 : ∀ x : UInt8, ((x.toNat : Int)).toNat.toUInt8 = x := by intro x; simp
        rw [e1, e2, e3, List.setIfInBounds_toArray, swIn_set hj (by omega), List.append_assoc] at N7
        k_steps
        rename Fr _ _ _ _ => F; rename News _ _ _ _ => N
        exact EndS.next (own ++ [(sw, baObj (swIn b i (j + 1)).toArray)]) F N (fun q hq p hp => by
          rcases List.mem_append.mp hp with hp | hp
          · exact hap5 q hq p (List.mem_append_left _ hp)
          · rw [List.mem_singleton.mp hp]; exact hap5 q hq (sw, baObj (swIn b i j).toArray) (List.mem_append_right _ (.head _))) ⟨rfl, rfl, rfl, rfl, rfl⟩
    case done2 =>
      rintro h5 tk5 m₅ news₅ F5 N5 ⟨hm1, hm2, hm3, hm4, rfl⟩
      clear F1 N1 hr1
      have F6 := Fr.ov (l := [(Str.ofString "data", _), (Str.ofString "width", _), (Str.ofString "swapped_data", _), (Str.ofString "i", _)]) F5 (by intro p hp; simp only [List.mem_cons, List.not_mem_nil, or_false] at hp; rcases hp with rfl | rfl | rfl | rfl <;> assumption)
      clear F5
      rw [swIn_next] at N5
      k_steps
      rename Fr _ _ _ _ => F; rename News _ _ _ _ => N
      exact EndS.next [(sw, baObj (swIn b (i + 1) 0).toArray)] F N (fun q hq p hp => by rw [List.mem_singleton.mp hp]; exact hap q hq (sw, baObj (swIn b i 0).toArray) (.head _)) ⟨rfl, rfl, rfl, rfl⟩
  case done =>
    rintro h3 tk3 m₁ news₁ F3 N3 ⟨hm1, hm2, hm3, rfl⟩
    clear F1 N1 hr1
    have F4 := Fr.ov (l := [(Str.ofString "data", _), (Str.ofString "width", _), (Str.ofString "swapped_data", _)]) F3 (by intro p hp; simp only [List.mem_cons, List.not_mem_nil, or_false] at hp; rcases hp with rfl | rfl | rfl <;> assumption)
    clear F3
    k_steps
    rename Fr _ _ _ _ => F; rename News _ _ _ _ => N
    refine call_bytes_ba (N _ (.head _)).1 (by rw [List.size_toArray, swIn_length]; omega) fun t' k' => ?_
    exact hQ _ _ _ F.keep ⟨_, rfl⟩
end Mine
end
section
open PySem PySem.W PyProof.Rows PySem.Calls PySem.Spec PyProof.V
set_option maxRecDepth 100000
set_option maxHeartbeats 8000000
namespace Mine
theorem powers_spec {w : World} {mg mb : Str → Option Value} {s : Shared} (O : Ok w mg mb s.heap) (k : Int) (t : Tok) :
    Spec w 167 [.int k t] s 1 8 (fun v h => ∃ r t1 t2 t3, v = .ref r ∧ s.heap.get? r = none ∧ h.IsList r [Value.int (k / 100) t1, .int (k / 10 % 10) t2, .int (k % 10) t3].toArray) := by
  unfold Spec
  intro dp un fr gs Q hR hQ
  obtain ⟨X, T⟩ := O
  revert X; k_fill; intro X
  refine wpAny_call ?_
  k_dflt (refine' enterX X T [(Str.ofString "key", .int k t)] ?k6 ?k7 ?k8 ?k9 ?kB ?kN ?_ ?c2 ?c3 ?c4 ?c5; (case k6 => k_is); (case k7 => k_is); (case k8 => (have := hR.d; dsimp only at this ⊢; omega)); (case k9 => exact rfl); (case c5 => decide); (case kB => exact locs rfl); (case kN => (dsimp only [List.map]; decide)); (case c2 => exact rfl); (case c3 => exact rfl); (case c4 => exact rfl); k_whole; intro h' F' N'; (try dsimp only))
  k_fold
  have hRd := fun env => Room.deeper (env := env) hR
  k_steps
  rename Fr _ _ _ _ => F; rename News _ _ _ _ => N
  have e := N _ (.head _)
  rw [Int.fdiv_eq_ediv_of_nonneg _ (by decide), Int.fdiv_eq_ediv_of_nonneg _ (by decide), Int.fmod_eq_emod_of_nonneg _ (by decide), Int.fmod_eq_emod_of_nonneg _ (by decide)] at e
  exact hQ _ _ _ F.keep ⟨_, _, _, _, rfl, e.2.2, ⟨_, e.1, rfl, _, rfl⟩⟩
end Mine
end
section
open PySem PySem.W PyProof.Rows PySem.Calls PySem.Spec PyProof.V
set_option maxRecDepth 100000
set_option maxHeartbeats 8000000
namespace Mine
local macro_rules | `(tactic| walk_at "exec For Name Name") => `(tactic| refine stop_here ?_)
local macro_rules | `(tactic| walk_at "exec For Tuple Call") => `(tactic| refine stop_here ?_)
local macro_rules | `(tactic| walk_at "call ref") => `(tactic| refine stop_here ?_)
local macro_rules | `(tactic| walk_at "call type:zip") => `(tactic| refine stop_here ?_)
def pws (k : Int) : List Int := [k / 100, k / 10 % 10, k % 10]
def prod (c : Int) (l : List (Int × Int)) : Int := l.foldl (fun a p => a * p.1 ^ p.2.toNat) c
def worthOf (xs : List Int) (d : List (Int × Int)) : Int := (d.map fun p => prod p.2 (xs.zip (pws p.1))).sum
theorem prod_take {c : Int} {l : List (Int × Int)} {i : Nat} {a e : Int} (h : l[i]? = some (a, e)) : prod c (l.take (i + 1)) = prod c (l.take i) * a ^ e.toNat := by
  unfold prod
  rw [List.take_add_one, h, List.foldl_append]; rfl
theorem prod_bd {l : List (Int × Int)} (hl : ∀ p ∈ l, Bd 200 p.1 ∧ 0 ≤ p.2 ∧ p.2 ≤ 9) : ∀ {c : Int} {n : Nat}, Bd n c → Bd (n + l.length * 1801) (prod c l) := by
  induction l with
  | nil => intro c n h; simpa [prod] using h
  | cons p r ih =>
    intro c n h
    have hp := hl p (.head _)
    have h1 : Bd (n + 1801) (c * p.1 ^ p.2.toNat) := h.mul ((hp.1.pow _).mono (by omega))
    have := ih (fun q hq => hl q (.tail _ hq)) h1
    exact this.mono (by rw [List.length_cons]; omega)
theorem worth_take {xs : List Int} {d : List (Int × Int)} {i : Nat} {k v : Int} (h : d[i]? = some (k, v)) : worthOf xs (d.take (i + 1)) = worthOf xs (d.take i) + prod v (xs.zip (pws k)) := by
  unfold worthOf
  rw [List.take_add_one, h]; simp
theorem pws_bd {k p : Int} (h : 0 ≤ k) (h2 : k ≤ 999) (hp : p ∈ pws k) : 0 ≤ p ∧ p ≤ 9 := by
  unfold pws at hp
  simp only [List.mem_cons, List.not_mem_nil, or_false] at hp
  rcases hp with rfl | rfl | rfl <;> omega
theorem worth_spec {w : World} {mg mb : Str → Option Value} {s : Shared} (O : Ok w mg mb s.heap) {t l : Addr} {d : List (Int × Int)} {xs : List Int} (h₁ : IsD w s.heap t d) (h₂ : IL s.heap l xs) (hx : xs.length = 3)
    (hd : ∀ p ∈ d, 0 ≤ p.1 ∧ p.1 ≤ 999 ∧ Bd 20 p.2) (hb : ∀ x ∈ xs, Bd 200 x) :
    Spec w 174 [.ref t, .ref l] s 2 20 (fun v _ => ∃ u, v = .int (worthOf xs d) u) := by
  unfold Spec
  intro dp un fr gs Q hR hQ
  have hq1 : Unit → IsD w s.heap t d := fun _ => h₁
  have hq2 : Unit → IL s.heap l xs := fun _ => h₂
  have hO : ∀ {h : Heap}, Keeps s.heap h → Ok w mg mb h := fun k => O.keeps k
  obtain ⟨X, T⟩ := O
  revert X; k_fill; intro X
  refine wpAny_call ?_
  k_dflt (refine' enterX X T [(Str.ofString "table", .ref t), (Str.ofString "numbers", .ref l)] ?k6 ?k7 ?k8 ?k9 ?kB ?kN ?_ ?c2 ?c3 ?c4 ?c5; (case k6 => k_is); (case k7 => k_is); (case k8 => (have := hR.d; dsimp only at this ⊢; omega)); (case k9 => exact rfl); (case c5 => decide); (case kB => exact locs rfl); (case kN => (dsimp only [List.map]; decide)); (case c2 => exact rfl); (case c3 => exact rfl); (case c4 => exact rfl); k_whole; intro h' F' N'; (try dsimp only))
  k_fold
  have hRd := fun env => Room.deeper (env := env) hR
  k_steps
  rename Fr _ _ _ _ => F; rename News _ _ _ _ => N
  refine go_on ?_
  refine forT F ?_
  k_steps
  obtain ⟨ot, hot⟩ := (hq1 ()).live
  obtain ⟨vs, hvs, hav⟩ := hq2 ()
  obtain ⟨ol, hol, _⟩ := id hvs
  (try dsimp only)
  rename Fr _ _ _ _ => F; rename News _ _ _ _ => N
  refine keysAt (D := d) (hRd _).h F N ((hq1 ()).keeps F.keep) (Nat.ne_of_lt (Heap.lt_size hot)) (fun _ hp => nomatch hp)
    (fun i m news => m (Str.ofString "table") = some (.ref t) ∧ m (Str.ofString "numbers") = some (.ref l) ∧ (∃ u, m (Str.ofString "worth") = some (.int (worthOf xs (d.take i)) u)) ∧ news = [])
    ⟨rfl, rfl, ⟨_, rfl⟩, rfl⟩ ?step ?done
  case step =>
    rintro i k v u h3 hi m₁ news₁ tk3 own ⟨hm1, hm2, ⟨u0, hm3⟩, rfl⟩ hap hown F3 N3
    have hkb := hd _ (List.mem_of_getElem? hi)
    clear F N
    have F4 := Fr.ov (l := [(Str.ofString "table", _), (Str.ofString "numbers", _), (Str.ofString "worth", _)]) F3 (by intro p hp; simp only [List.mem_cons, List.not_mem_nil, or_false] at hp; rcases hp with rfl | rfl | rfl <;> assumption); clear F3
    k_steps
    any_goals (first | (exfalso; rename (PySem.Spec.lookup _ _ = none) => hl; rw [lookup_enc, gt_of (hq1 ()).nodup hi] at hl; cases hl; done) | skip)
    rename (PySem.Spec.lookup _ _ = some _) => hl
    rw [lookup_enc, gt_of (hq1 ()).nodup hi] at hl
    cases hl
    rename (Flat _ _) => hv
    obtain ⟨u1, rfl⟩ := hv.int_inv
    rename Fr _ _ _ _ => F; rename News _ _ _ _ => N
    refine go_on ?_
    refine forT F ?_
    k_steps
    rename Fr _ _ _ _ => F; rename News _ _ _ _ => N; refine go_on ?_; refine use (powers_spec (hO (by exact F.keep)) _ _) F N ((hRd _).le (by decide) (by decide)) ?_
    rintro _ h5 tk5 k5 F5 N5 ⟨r, t1, t2, t3, rfl, hr0, hr⟩
    have hrL : r ≠ s.heap.objs.size := by
      rintro rfl
      obtain ⟨oL, _, _, hL, _⟩ := F.ns
      have hr0' := hr0
      dsimp only at hr0'
      rw [hL] at hr0'; cases hr0'
    have hrn : ∀ p ∈ own, p.1 ≠ r := by
      intro p hp e
      have := (N p (List.mem_append_left _ hp)).1
      have hr0' := hr0
      dsimp only at hr0'
      rw [e, hr0'] at this; cases this
    clear F N
    k_steps
    refine go_on ?_
    rename Fr _ _ _ _ => F; rename News _ _ _ _ => N
    have hpv   : IntsAre [Value.int (k / 100) t1, .int (k / 10 % 10) t2, .int (k % 10) t3] (pws k) := .cons _ _ (.cons _ _ (.cons _ _ .nil))
    refine zipAt (hRd _).h F N (hvs.at fun o e => F.keep _ o e) hr (Nat.ne_of_lt (Heap.lt_size hol)) hrL ?dn (by simpa using hrn)
      (fun j m news => m (Str.ofString "table") = some (.ref t) ∧ m (Str.ofString "numbers") = some (.ref l) ∧ m (Str.ofString "worth") = some (.int (worthOf xs (d.take i)) u0) ∧ (∃ u, m (Str.ofString "product") = some (.int (prod v ((xs.zip (pws k)).take j)) u)) ∧ news = own ++ [])
      ⟨rfl, rfl, rfl, ⟨_, rfl⟩, rfl⟩ ?step2 ?done2
    case dn =>
      intro p hp e
      have := (N p hp).2.2
      rw [e, hol] at this; cases this
    case step2 =>
      rintro j T x y tk6 h6 hxj hyj hT m₅ news₅ tk5 own5 ⟨hm1, hm2, hm3, ⟨u2, hm4⟩, rfl⟩ hap5 hown5 F5 N5
      obtain ⟨xa, xt, rfl, hxa⟩ := IntsAre.at hav _ _ hxj
      obtain ⟨ya, yt, rfl, hya⟩ := IntsAre.at hpv _ _ hyj
      have hz : (xs.zip (pws k))[j]? = some (xa, ya) := by simp [List.getElem?_zip_eq_some, hxa, hya]
      have hxb := hb _ (List.mem_of_getElem? hxa)
      have hyb := pws_bd hkb.1 hkb.2.1 (List.mem_of_getElem? hya)
      have hall : ∀ p ∈ (xs.zip (pws k)).take j, Bd 200 p.1 ∧ 0 ≤ p.2 ∧ p.2 ≤ 9 := by
        intro p hp
        have hp' := List.of_mem_zip (List.mem_of_mem_take hp : (p.1, p.2) ∈ _)
        exact ⟨hb _ hp'.1, pws_bd hkb.1 hkb.2.1 hp'.2⟩
      have hpb := prod_bd hall hkb.2.2
      have hlen : ((xs.zip (pws k)).take j).length ≤ 3 := by rw [List.length_take, List.length_zip, hx]; exact Nat.le_trans (Nat.min_le_right _ _) (Nat.min_le_left _ _)
      clear F N
      have F4 := Fr.ov (l := [(Str.ofString "table", _), (Str.ofString "numbers", _), (Str.ofString "worth", _), (Str.ofString "product", _)]) F5 (by intro p hp; simp only [List.mem_cons, List.not_mem_nil, or_false] at hp; rcases hp with rfl | rfl | rfl | rfl <;> assumption); clear F5
      k_steps
      rename Fr _ _ _ _ => F; rename News _ _ _ _ => N; refine go_on ?_; refine use (ipow_spec (hO (by exact F.keep)) _ _ _ _ hyb.1 (hxb.powOk hyb.2 hyb.1 (by decide))) F N ((hRd _).le (by decide) (by decide)) ?_
      rintro _ h7 tk7 k7 F7 N7 ⟨t7, rfl⟩
      clear F N
      k_steps
      rename Fr _ _ _ _ => F; rename News _ _ _ _ => N; refine go_on ?_; refine use (imul_spec (hO (by exact F.keep)) _ _ _ _ (Bd.mulOk hpb (hxb.pow _) (by omega))) F N ((hRd _).le (by decide) (by decide)) ?_
      rintro _ h8 tk8 k8 F8 N8 ⟨t8, rfl⟩
      clear F N
      k_steps
      rename Fr _ _ _ _ => F; rename News _ _ _ _ => N
      exact EndS.next (own ++ []) F N (fun q hq p hp => hap5 q hq p hp) ⟨rfl, rfl, rfl, ⟨t8, by rw [prod_take hz]; rfl⟩, rfl⟩
    case done2 =>
      rintro h5 tk5 m₅ news₅ F5 N5 ⟨hm1, hm2, hm3, ⟨u2, hm4⟩, rfl⟩
      clear F N
      have F4 := Fr.ov (l := [(Str.ofString "table", _), (Str.ofString "numbers", _), (Str.ofString "worth", _), (Str.ofString "product", _)]) F5 (by intro p hp; simp only [List.mem_cons, List.not_mem_nil, or_false] at hp; rcases hp with rfl | rfl | rfl | rfl <;> assumption); clear F5
      have e3 : List.take (min vs.length [Value.int (k / 100) t1, .int (k / 10 % 10) t2, .int (k % 10) t3].length) (xs.zip (pws k)) = xs.zip (pws k) :=
        List.take_of_length_le (by rw [IntsAre.length hav, hx, List.length_zip, hx]; exact Nat.min_le_left _ _)
      rw [e3] at F4
      k_steps
      rename Fr _ _ _ _ => F; rename News _ _ _ _ => N; refine go_on ?_; refine use (iadd_spec (hO (by exact F.keep)) _ _ _ _) F N ((hRd _).le (by decide) (by decide)) ?_
      rintro _ h8 tk8 k8 F8 N8 ⟨t8, rfl⟩
      clear F N
      k_steps
      rename Fr _ _ _ _ => F; rename News _ _ _ _ => N
      exact EndS.next [] F N (fun _ _ _ hp => nomatch hp) ⟨rfl, rfl, ⟨t8, by rw [worth_take hi]; rfl⟩, rfl⟩
  case done =>
    rintro h3 tk3 m₁ news₁ F3 N3 ⟨hm1, hm2, ⟨u0, hm3⟩, rfl⟩
    clear F N
    have F4 := Fr.ov (l := [(Str.ofString "worth", _)]) F3 (by intro p hp; simp only [List.mem_cons, List.not_mem_nil, or_false] at hp; rcases hp with rfl <;> assumption); clear F3
    rw [List.take_length] at F4
    k_steps
    rename Fr _ _ _ _ => F; rename News _ _ _ _ => N
    exact hQ _ _ _ F.keep ⟨_, rfl⟩
end Mine
end
section
open PySem PySem.W PyProof.Rows PySem.Calls PySem.Spec PyProof.V
set_option maxRecDepth 100000
set_option maxHeartbeats 8000000
namespace Mine
local macro_rules | `(tactic| walk_at "exec For Name Name") => `(tactic| refine stop_here ?_)
local macro_rules | `(tactic| walk_at "exec For Name Tuple") => `(tactic| refine stop_here ?_)
local macro_rules | `(tactic| walk_at "exec For Name Tuple cons nil") => `(tactic| refine stop_here ?_)
local macro_rules | `(tactic| walk_at "call ref") => `(tactic| refine stop_here ?_)
def addAt (n : Int) (xs : List Int) (k : Nat) : List Int := xs.set k (xs.getD k 0 + n * xs.getD (k - 1) 0)
def alikeOne (xs : List Int) (n : Int) : List Int := [1, 2, 3, 4, 5].foldl (addAt n) xs
def unlikeOne (xs : List Int) (n : Int) : List Int := [3, 2, 1].foldl (addAt n) xs
def AllBd (c : Nat) (xs : List Int) : Prop := ∀ a ∈ xs, Bd c a
theorem AllBd.mono {c c' : Nat} {xs : List Int} (h : AllBd c xs) (k : c ≤ c') : AllBd c' xs := fun a ha => (h a ha).mono k
theorem AllBd.getD {c : Nat} {xs : List Int} (h : AllBd c xs) (k : Nat) : Bd c (xs.getD k 0) := by
  rw [List.getD_eq_getElem?_getD]
  cases e : xs[k]? with
  | none => exact Bd.zero
  | some a => exact h a (List.mem_of_getElem? e)
theorem addAt_length (n : Int) (xs : List Int) (k : Nat) : (addAt n xs k).length = xs.length := by simp [addAt]
theorem addAt_bd {c : Nat} {n : Int} {xs : List Int} (h : AllBd c xs) (hn : Bd 200 n) (k : Nat) : AllBd (c + 201) (addAt n xs k) := by
  intro a ha
  unfold addAt at ha
  rcases List.mem_or_eq_of_mem_set ha with ha | rfl
  · exact (h a ha).mono (by omega)
  · exact (((h.getD k).mono (by omega : c ≤ 200 + c)).add (hn.mul (h.getD (k - 1)))).mono (by omega)
theorem addAts_length (n : Int) (js : List Nat) : ∀ xs : List Int, (js.foldl (addAt n) xs).length = xs.length := by
  induction js with
  | nil => intro xs; rfl
  | cons j r ih => intro xs; rw [List.foldl_cons, ih, addAt_length]
theorem addAts_bd {n : Int} (hn : Bd 200 n) (js : List Nat) : ∀ {c : Nat} {xs : List Int}, AllBd c xs → AllBd (c + 201 * js.length) (js.foldl (addAt n) xs) := by
  induction js with
  | nil => intro c xs h; simpa using h
  | cons j r ih => intro c xs h; rw [List.foldl_cons]; exact (ih (addAt_bd h hn j)).mono (by rw [List.length_cons]; omega)
theorem addAts_take {n : Int} {js : List Nat} {i k : Nat} {xs : List Int} (h : js[i]? = some k) : (js.take (i + 1)).foldl (addAt n) xs = addAt n ((js.take i).foldl (addAt n) xs) k := by
  rw [List.take_add_one, h, List.foldl_append]; rfl
theorem rounds_length {f : List Int → Int → List Int} (hf : ∀ xs n, (f xs n).length = xs.length) (ns : List Int) : ∀ xs : List Int, (ns.foldl f xs).length = xs.length := by
  induction ns with
  | nil => intro xs; rfl
  | cons j r ih => intro xs; rw [List.foldl_cons, ih, hf]
theorem rounds_bd {f : List Int → Int → List Int} {d : Nat} (hf : ∀ {c : Nat} {xs n}, Bd 200 n → AllBd c xs → AllBd (c + d) (f xs n)) (ns : List Int) (hn : ∀ n ∈ ns, Bd 200 n) : ∀ {c : Nat} {xs : List Int}, AllBd c xs → AllBd (c + d * ns.length) (ns.foldl f xs) := by
  induction ns with
  | nil => intro c xs h; simpa using h
  | cons j r ih => intro c xs h; rw [List.foldl_cons]; exact (ih (fun n hq => hn n (.tail _ hq)) (hf (hn j (.head _)) h)).mono (by rw [List.length_cons, Nat.mul_succ]; omega)
theorem rounds_take {f : List Int → Int → List Int} {ns : List Int} {i : Nat} {n : Int} {xs : List Int} (h : ns[i]? = some n) : (ns.take (i + 1)).foldl f xs = f ((ns.take i).foldl f xs) n := by
  rw [List.take_add_one, h, List.foldl_append]; rfl
theorem alikeOne_bd {c : Nat} {xs : List Int} {n : Int} (hn : Bd 200 n) (h : AllBd c xs) : AllBd (c + 1005) (alikeOne xs n) := addAts_bd hn _ h
theorem unlikeOne_bd {c : Nat} {xs : List Int} {n : Int} (hn : Bd 200 n) (h : AllBd c xs) : AllBd (c + 1005) (unlikeOne xs n) := (addAts_bd hn _ h).mono (by simp)
theorem sums_spec {w : World} {mg mb : Str → Option Value} {s : Shared} (O : Ok w mg mb s.heap) {l : Addr} {xs : List Int} (h₂ : IL s.heap l xs) (hx : xs.length = 3) (hb : ∀ x ∈ xs, Bd 200 x) :
    Spec w 195 [.ref l] s 2 20 (fun v h => ∃ T r₁ r₂, v = .ref T ∧ IsTup h T #[.ref r₁, .ref r₂] ∧ s.heap.get? T = none ∧ s.heap.get? r₁ = none ∧ s.heap.get? r₂ = none ∧ IL h r₁ (xs.foldl alikeOne [1, 0, 0, 0, 0, 0]) ∧ IL h r₂ (xs.foldl unlikeOne [1, 0, 0, 0, 0, 0])) := by
  unfold Spec
  intro dp un fr gs Q hR hQ
  have hq2 : Unit → IL s.heap l xs := fun _ => h₂
  have hO : ∀ {h : Heap}, Keeps s.heap h → Ok w mg mb h := fun k => O.keeps k
  obtain ⟨X, T⟩ := O
  revert X; k_fill; intro X
  refine wpAny_call ?_
  k_dflt (refine' enterX X T [(Str.ofString "numbers", .ref l)] ?k6 ?k7 ?k8 ?k9 ?kB ?kN ?_ ?c2 ?c3 ?c4 ?c5; (case k6 => k_is); (case k7 => k_is); (case k8 => (have := hR.d; dsimp only at this ⊢; omega)); (case k9 => exact rfl); (case c5 => decide); (case kB => exact locs rfl); (case kN => (dsimp only [List.map]; decide)); (case c2 => exact rfl); (case c3 => exact rfl); (case c4 => exact rfl); k_whole; intro h' F' N'; (try dsimp only))
  k_fold
  have hRd := fun env => Room.deeper (env := env) hR
  k_steps
  rename Fr _ _ _ _ => F; rename News _ _ _ _ => N
  refine go_on ?_
  refine forT F ?_
  k_steps
  obtain ⟨vs, hvs, hav⟩ := hq2 ()
  obtain ⟨ol, hol, _⟩ := id hvs
  (try dsimp only)
  rename Fr _ _ _ _ => F; rename News _ _ _ _ => N
  have hini : ∀ i, AllBd (1 + 1005 * (xs.take i).length) ((xs.take i).foldl alikeOne [1, 0, 0, 0, 0, 0]) ∧ AllBd (1 + 1005 * (xs.take i).length) ((xs.take i).foldl unlikeOne [1, 0, 0, 0, 0, 0]) := by
    intro i
    have h0 : AllBd 1 [1, 0, 0, 0, 0, 0] := by
      intro a ha
      simp only [List.mem_cons, List.not_mem_nil, or_false] at ha
      rcases ha with rfl | rfl | rfl | rfl | rfl | rfl <;> (unfold Bd; decide)
    exact ⟨rounds_bd alikeOne_bd _ (fun n hn => hb n (List.mem_of_mem_take hn)) h0, rounds_bd unlikeOne_bd _ (fun n hn => hb n (List.mem_of_mem_take hn)) h0⟩
  have hinl : ∀ i, ((xs.take i).foldl alikeOne [1, 0, 0, 0, 0, 0]).length = 6 ∧ ((xs.take i).foldl unlikeOne [1, 0, 0, 0, 0, 0]).length = 6 := fun i => ⟨rounds_length (fun xs n => addAts_length n _ xs) _ _, rounds_length (fun xs n => addAts_length n _ xs) _ _⟩
  rename_i ra _ _ _ _ ru _ _ _ _
  have hne : ru ≠ ra := Nat.ne_of_gt (by assumption)
  refine listAt (hRd _).h F N (hvs.at fun o e => F.keep _ o e) (Nat.ne_of_lt (Heap.lt_size hol)) (fun p hp e => by have := (N p hp).2.2; rw [e, hol] at this; cases this)
    (fun i m news => m (Str.ofString "alike") = some (.ref ra) ∧ m (Str.ofString "unlike") = some (.ref ru) ∧ ∃ va vu, news = [(ru, W.listOf vu.toArray 0), (ra, W.listOf va.toArray 0)] ∧ IntsAre va ((xs.take i).foldl alikeOne [1, 0, 0, 0, 0, 0]) ∧ IntsAre vu ((xs.take i).foldl unlikeOne [1, 0, 0, 0, 0, 0]))
    ⟨rfl, rfl, _, _, rfl, .cons _ _ (.cons _ _ (.cons _ _ (.cons _ _ (.cons _ _ (.cons _ _ .nil))))), .cons _ _ (.cons _ _ (.cons _ _ (.cons _ _ (.cons _ _ (.cons _ _ .nil)))))⟩ ?step ?done
  case step =>
    rintro i v h3 hi m₁ news₁ tk3 own ⟨hm1, hm2, va, vu, rfl, hva, hvu⟩ hap hown F3 N3
    obtain ⟨n, tn, rfl, hn⟩ := IntsAre.at hav _ _ hi
    have hnb := hb _ (List.mem_of_getElem? hn)
    have hi3 : (xs.take i).length ≤ 3 := by rw [List.length_take, hx]; exact Nat.min_le_right _ _
    clear F N
    have F4 := Fr.ov (l := [(Str.ofString "alike", _), (Str.ofString "unlike", _)]) F3 (by intro p hp; simp only [List.mem_cons, List.not_mem_nil, or_false] at hp; rcases hp with rfl | rfl <;> assumption); clear F3
    k_steps
    rename Fr _ _ _ _ => F; rename News _ _ _ _ => N
    refine go_on ?_
    refine forT F ?_
    k_steps
    rename Fr _ _ _ _ => F; rename News _ _ _ _ => N
    (try dsimp only)
    generalize hxa : (xs.take i).foldl alikeOne [1, 0, 0, 0, 0, 0] = xa at hva
    generalize hxu : (xs.take i).foldl unlikeOne [1, 0, 0, 0, 0, 0] = xu at hvu
    have hba : AllBd 3100 xa := hxa ▸ (hini i).1.mono (by omega)
    have hbu : AllBd 3100 xu := hxu ▸ (hini i).2.mono (by omega)
    have hla : xa.length = 6 := hxa ▸ (hinl i).1
    have hlu : xu.length = 6 := hxu ▸ (hinl i).2
    have hap' : ∀ q ∈ own, q.1 ≠ ru ∧ q.1 ≠ ra := fun q hq => ⟨hap q hq (ru, W.listOf vu.toArray 0) (.head _), hap q hq (ra, W.listOf va.toArray 0) (.tail _ (.head _))⟩
    have hT : IsTup _ _ [Value.int 1 _, Value.int 2 _, Value.int 3 _, Value.int 4 _, Value.int 5 _].toArray := ⟨_, (N _ (.head _)).1, rfl, _, rfl⟩
    have hTL := (N _ (.head _)).2.1
    have hTn : ∀ p ∈ own ++ [(ru, W.listOf vu.toArray 0), (ra, W.listOf va.toArray 0)], p.1 ≠ _ := fun p hp => Nat.ne_of_lt ((by assumption : ∀ p ∈ own ++ [(ru, W.listOf vu.toArray 0), (ra, W.listOf va.toArray 0)], p.1 < _) p hp)
    refine tupAt (hRd _).h F (fun p hp => N p (.tail _ hp)) hT hTL hTn
      (fun j m news => m (Str.ofString "alike") = some (.ref ra) ∧ m (Str.ofString "unlike") = some (.ref ru) ∧ m (Str.ofString "number") = some (.int n tn) ∧ ∃ va', news = own ++ [(ru, W.listOf vu.toArray 0), (ra, W.listOf va'.toArray 0)] ∧ IntsAre va' (([1, 2, 3, 4, 5].take j).foldl (addAt n) xa))
      ⟨rfl, rfl, rfl, va, rfl, hva⟩ ?step2 ?done2
    case step2 =>
      rintro j v h5 hj m₅ news₅ tk5 own5 ⟨hm1, hm2, hm3, va', rfl, hva'⟩ hap5 hown5 F5 N5
      obtain ⟨k, tk', rfl, hk⟩ := IntsAre.at (ns := [1, 2, 3, 4, 5]) (by exact .cons _ _ (.cons _ _ (.cons _ _ (.cons _ _ (.cons _ _ .nil))))) _ _ hj
      have hj5 : j < 5 := (List.getElem?_eq_some_iff.mp hk).1
      have hk' : k = (j : Int) + 1 := by
        match j, hj5, hk with
        | 0, _, hk => exact (Option.some.inj hk).symm
        | 1, _, hk => exact (Option.some.inj hk).symm
        | 2, _, hk => exact (Option.some.inj hk).symm
        | 3, _, hk => exact (Option.some.inj hk).symm
        | 4, _, hk => exact (Option.some.inj hk).symm
      have hkn : [1, 2, 3, 4, 5][j]? = some (j + 1) := by
        match j, hj5 with
        | 0, _ => rfl
        | 1, _ => rfl
        | 2, _ => rfl
        | 3, _ => rfl
        | 4, _ => rfl
      subst hk'
      have hs := addAts_take (n := n) (xs := xa) hkn
      have hb5 : AllBd 5000 (([1, 2, 3, 4, 5].take j).foldl (addAt n) xa) := (addAts_bd hnb _ hba).mono (by rw [List.length_take]; have : min j [1, 2, 3, 4, 5].length ≤ 5 := Nat.min_le_right _ _; omega)
      have hl5 : (([1, 2, 3, 4, 5].take j).foldl (addAt n) xa).length = 6 := by rw [addAts_length, hla]
      generalize hya : ([1, 2, 3, 4, 5].take j).foldl (addAt n) xa = ya at hva' hs hb5 hl5
      clear F N
      have F4 := Fr.ov (l := [(Str.ofString "alike", _), (Str.ofString "unlike", _), (Str.ofString "number", _)]) F5 (by intro p hp; simp only [List.mem_cons, List.not_mem_nil, or_false] at hp; rcases hp with rfl | rfl | rfl <;> assumption); clear F5
      k_steps
      rename Fr _ _ _ _ => F; rename News _ _ _ _ => N; refine go_on ?_; refine use (imul_spec (hO (by exact F.keep)) _ _ _ _ (hnb.mulOk (hb5.getD _) (by decide))) F N ((hRd _).le (by decide) (by decide)) ?_
      rintro _ h7 tk7 k7 F7 N7 ⟨t7, rfl⟩
      clear F N
      k_steps
      rename Fr _ _ _ _ => F; rename News _ _ _ _ => N; refine go_on ?_; refine use (iadd_spec (hO (by exact F.keep)) _ _ _ _) F N ((hRd _).le (by decide) (by decide)) ?_
      rintro _ h8 tk8 k8 F8 N8 ⟨t8, rfl⟩
      clear F N
      k_steps
      rename Fr _ _ _ _ => F; rename News _ _ _ _ => N
      refine setL (pre := own5 ++ (own ++ [(ru, W.listOf vu.toArray 0)])) (post := []) F (by simpa only [List.append_assoc, List.cons_append, List.nil_append] using N) ?_ (fun _ hp => nomatch hp) (by omega) (by rw [IntsAre.length hva', hl5]; omega) (by omega) ?_
      · intro p hp
        rcases List.mem_append.mp hp with hp | hp
        · exact hap5 p hp (ra, W.listOf va'.toArray 0) (List.mem_append_right _ (.tail _ (.head _)))
        · rcases List.mem_append.mp hp with hp | hp
          · exact (hap' p hp).2
          · rw [List.mem_singleton.mp hp]; exact hne
      · intro h9 F9 N9
        clear F N
        k_steps
        rename Fr _ _ _ _ => F; rename News _ _ _ _ => N
        refine EndS.next (own ++ [(ru, W.listOf vu.toArray 0), (ra, W.listOf (va'.set ((j : Int) + 1).toNat _).toArray 0)]) F (by simpa only [List.append_assoc, List.cons_append, List.nil_append] using N) ?_ ⟨rfl, rfl, rfl, _, rfl, ?_⟩
        · intro q hq p hp
          rcases List.mem_append.mp hp with hp | hp
          · exact hap5 q hq p (List.mem_append_left _ hp)
          · simp only [List.mem_cons, List.not_mem_nil, or_false] at hp
            rcases hp with rfl | rfl
            · exact hap5 q hq (ru, W.listOf vu.toArray 0) (List.mem_append_right _ (.head _))
            · exact hap5 q hq (ra, W.listOf va'.toArray 0) (List.mem_append_right _ (.tail _ (.head _)))
        · rw [hs]
          have e1 : ((j : Int) + 1).toNat = j + 1 := by omega
          have e2 : ((j : Int) + 1 - 1).toNat = j := by omega
          rw [e1, e2]
          exact ints_set hva' _
    case done2 =>
      rintro h5 tk5 m₅ news₅ F5 N5 ⟨hm1, hm2, hm3, va', rfl, hva'⟩
      clear F N
      have F4 := Fr.ov (l := [(Str.ofString "alike", _), (Str.ofString "unlike", _), (Str.ofString "number", _)]) F5 (by intro p hp; simp only [List.mem_cons, List.not_mem_nil, or_false] at hp; rcases hp with rfl | rfl | rfl <;> assumption); clear F5
      have hva2 : IntsAre va' (alikeOne xa n) := hva'
      clear hva'
      k_steps
      rename Fr _ _ _ _ => F; rename News _ _ _ _ => N
      refine go_on ?_
      refine forT F ?_
      k_steps
      rename Fr _ _ _ _ => F; rename News _ _ _ _ => N
      (try dsimp only)
      have hT : IsTup _ _ [Value.int 3 _, Value.int 2 _, Value.int 1 _].toArray := ⟨_, (N _ (.head _)).1, rfl, _, rfl⟩
      have hTL := (N _ (.head _)).2.1
      have hTn : ∀ p ∈ own ++ [(ru, W.listOf vu.toArray 0), (ra, W.listOf va'.toArray 0)], p.1 ≠ _ := fun p hp => Nat.ne_of_lt ((by assumption : ∀ p ∈ own ++ [(ru, W.listOf vu.toArray 0), (ra, W.listOf va'.toArray 0)], p.1 < _) p hp)
      refine tupAt (hRd _).h F (fun p hp => N p (.tail _ hp)) hT hTL hTn
        (fun j m news => m (Str.ofString "alike") = some (.ref ra) ∧ m (Str.ofString "unlike") = some (.ref ru) ∧ m (Str.ofString "number") = some (.int n tn) ∧ ∃ vu', news = own ++ [(ru, W.listOf vu'.toArray 0), (ra, W.listOf va'.toArray 0)] ∧ IntsAre vu' (([3, 2, 1].take j).foldl (addAt n) xu))
        ⟨rfl, rfl, rfl, vu, rfl, hvu⟩ ?step3 ?done3
      case step3 =>
        rintro j v h5 hj m₅ news₅ tk5 own5 ⟨hm1, hm2, hm3, vu', rfl, hvu'⟩ hap5 hown5 F5 N5
        obtain ⟨k, tk', rfl, hk⟩ := IntsAre.at (ns := [3, 2, 1]) (by exact .cons _ _ (.cons _ _ (.cons _ _ .nil))) _ _ hj
        have hj5 : j < 3 := (List.getElem?_eq_some_iff.mp hk).1
        have hk' : k = 3 - (j : Int) := by
          match j, hj5, hk with
          | 0, _, hk => exact (Option.some.inj hk).symm
          | 1, _, hk => exact (Option.some.inj hk).symm
          | 2, _, hk => exact (Option.some.inj hk).symm
        have hkn : [3, 2, 1][j]? = some (3 - j) := by
          match j, hj5 with
          | 0, _ => rfl
          | 1, _ => rfl
          | 2, _ => rfl
        subst hk'
        have hs := addAts_take (n := n) (xs := xu) hkn
        have hb5 : AllBd 5000 (([3, 2, 1].take j).foldl (addAt n) xu) := (addAts_bd hnb _ hbu).mono (by rw [List.length_take]; have : min j [3, 2, 1].length ≤ 3 := Nat.min_le_right _ _; omega)
        have hl5 : (([3, 2, 1].take j).foldl (addAt n) xu).length = 6 := by rw [addAts_length, hlu]
        generalize hya : ([3, 2, 1].take j).foldl (addAt n) xu = ya at hvu' hs hb5 hl5
        clear F N
        have F4 := Fr.ov (l := [(Str.ofString "alike", _), (Str.ofString "unlike", _), (Str.ofString "number", _)]) F5 (by intro p hp; simp only [List.mem_cons, List.not_mem_nil, or_false] at hp; rcases hp with rfl | rfl | rfl <;> assumption); clear F5
        k_steps
        rename Fr _ _ _ _ => F; rename News _ _ _ _ => N; refine go_on ?_; refine use (imul_spec (hO (by exact F.keep)) _ _ _ _ (hnb.mulOk (hb5.getD _) (by decide))) F N ((hRd _).le (by decide) (by decide)) ?_
        rintro _ h7 tk7 k7 F7 N7 ⟨t7, rfl⟩
        clear F N
        k_steps
        rename Fr _ _ _ _ => F; rename News _ _ _ _ => N; refine go_on ?_; refine use (iadd_spec (hO (by exact F.keep)) _ _ _ _) F N ((hRd _).le (by decide) (by decide)) ?_
        rintro _ h8 tk8 k8 F8 N8 ⟨t8, rfl⟩
        clear F N
        k_steps
        rename Fr _ _ _ _ => F; rename News _ _ _ _ => N
        refine setL (pre := own5 ++ own) (post := [(ra, W.listOf va'.toArray 0)]) F (by simpa only [List.append_assoc, List.cons_append, List.nil_append] using N) ?_ (fun p hp => by rw [List.mem_singleton.mp hp]; exact hne.symm) (by omega) (by rw [IntsAre.length hvu', hl5]; omega) (by omega) ?_
        · intro p hp
          rcases List.mem_append.mp hp with hp | hp
          · exact hap5 p hp (ru, W.listOf vu'.toArray 0) (List.mem_append_right _ (.head _))
          · exact (hap' p hp).1
        · intro h9 F9 N9
          clear F N
          k_steps
          rename Fr _ _ _ _ => F; rename News _ _ _ _ => N
          refine EndS.next (own ++ [(ru, W.listOf (vu'.set (3 - (j : Int)).toNat _).toArray 0), (ra, W.listOf va'.toArray 0)]) F (by simpa only [List.append_assoc, List.cons_append, List.nil_append] using N) ?_ ⟨rfl, rfl, rfl, _, rfl, ?_⟩
          · intro q hq p hp
            rcases List.mem_append.mp hp with hp | hp
            · exact hap5 q hq p (List.mem_append_left _ hp)
            · simp only [List.mem_cons, List.not_mem_nil, or_false] at hp
              rcases hp with rfl | rfl
              · exact hap5 q hq (ru, W.listOf vu'.toArray 0) (List.mem_append_right _ (.head _))
              · exact hap5 q hq (ra, W.listOf va'.toArray 0) (List.mem_append_right _ (.tail _ (.head _)))
          · rw [hs]
            have e1 : (3 - (j : Int)).toNat = 3 - j := by omega
            have e2 : (3 - (j : Int) - 1).toNat = 3 - j - 1 := by omega
            rw [e1, e2]
            exact ints_set hvu' _
      case done3 =>
        rintro h5 tk5 m₅ news₅ F5 N5 ⟨hm1, hm2, hm3, vu', rfl, hvu'⟩
        clear F N
        have F4 := Fr.ov (l := [(Str.ofString "alike", _), (Str.ofString "unlike", _), (Str.ofString "number", _)]) F5 (by intro p hp; simp only [List.mem_cons, List.not_mem_nil, or_false] at hp; rcases hp with rfl | rfl | rfl <;> assumption); clear F5
        have hvu2 : IntsAre vu' (unlikeOne xu n) := hvu'
        clear hvu'
        k_steps
        rename Fr _ _ _ _ => F; rename News _ _ _ _ => N
        refine EndS.next [(ru, W.listOf vu'.toArray 0), (ra, W.listOf va'.toArray 0)] F N ?_ ⟨rfl, rfl, _, _, rfl, ?_, ?_⟩
        · intro q hq p hp
          simp only [List.mem_cons, List.not_mem_nil, or_false] at hp
          rcases hp with rfl | rfl
          · exact (hap' q hq).1
          · exact (hap' q hq).2
        · rw [rounds_take hn, hxa]; exact hva2
        · rw [rounds_take hn, hxu]; exact hvu2
  case done =>
    rintro h3 tk3 m₁ news₁ F3 N3 ⟨hm1, hm2, va, vu, rfl, hva, hvu⟩
    clear F N
    have F4 := Fr.ov (l := [(Str.ofString "alike", _), (Str.ofString "unlike", _)]) F3 (by intro p hp; simp only [List.mem_cons, List.not_mem_nil, or_false] at hp; rcases hp with rfl | rfl <;> assumption); clear F3
    rw [IntsAre.length hav, List.take_length] at hva hvu
    k_steps
    rename Fr _ _ _ _ => F; rename News _ _ _ _ => N
    have q1 := N _ (.head _)
    have q2 := N _ (.tail _ (.head _))
    have q3 := N _ (.tail _ (.tail _ (.head _)))
    exact hQ _ _ _ F.keep ⟨_, ra, ru, rfl, ⟨_, q1.1, rfl, _, rfl⟩, q1.2.2, q3.2.2, q2.2.2, ⟨va, ⟨_, q3.1, rfl, _, rfl⟩, hva⟩, ⟨vu, ⟨_, q2.1, rfl, _, rfl⟩, hvu⟩⟩
end Mine
end
section
open PySem PySem.W PyProof.Rows PySem.Calls PySem.Spec PyProof.V
set_option maxRecDepth 100000
set_option maxHeartbeats 8000000
namespace Mine
section
variable {w : World} {A : Around} {E : Value → Shared → Prop} {s : Shared} {env : Env} {h₀ : Heap} {L d : Addr} {m : Str → Option Value} {news : List (Addr × Obj)} {o : Obj} {Q : Value → Shared → Prop}
/-- {k: v} -/
theorem dict1 {k v : Expr} {pos : Pos} (F : Fr h₀ L s.heap m) (N : News h₀ L s.heap news) (hbig : h₀.NoLimit)
    (h : ∀ (d : Addr) h' o, Fr h₀ L h' m → News h₀ L h' ((d, o) :: news) → (∀ p ∈ news, p.1 < d) → (d == sysModules) = false → o.IsDictOf (IK w) [] →
      wpAny (model PySem.Challenge.rw_xp0024_01.row.prog w) A (eval k env) (fun kv s₁ => wpAny (model PySem.Challenge.rw_xp0024_01.row.prog w) A (eval v env) (fun vv s₂ => Stopped (KdnMade PySem.Challenge.rw_xp0024_01.row.prog w (IK w) d Q [(kv, vv)] s₂)) E s₁) E { s with heap := h' }) :
    wpAny (model PySem.Challenge.rw_xp0024_01.row.prog w) A (eval (.Dict [some k] [v] pos) env) Q E s := by
  refine kdn_eval (knd := IK w) F N hbig rfl rfl (List.cons_ne_nil _ _) (by show 1 ≤ 15; decide) fun d h' o F' N' hl lo hd => ?_
  exact pairTrees_cons_walk (wpAny_mono (h d h' o F' N' hl lo hd) (fun kv s₁ h₁ => wpAny_mono h₁ (fun vv s₂ h₂ => pairTrees_nil_walk h₂) fun _ _ e => e) fun _ _ e => e)
theorem dict1_made {k v : Int} {t u : Tok} (F : Fr h₀ L s.heap m) (N : News h₀ L s.heap ((d, o) :: news)) (hlt : ∀ p ∈ news, p.1 < d) (hd : o.IsDictOf (IK w) [])
    (h : ∀ h' o', Fr h₀ L h' m → News h₀ L h' ((d, o') :: news) → o'.IsDictOf (IK w) [(k, .int v u)] → FlatPairs PyData.int [(k, .int v u)] (enc [(k, v)]) → Q (.ref d) { s with heap := h', toks := s.toks + 1 }) :
    Stopped (KdnMade PySem.Challenge.rw_xp0024_01.row.prog w (IK w) d Q [(.int k t, .int v u)] s) := by
  refine kdn_made_intF F N (UpdF.head fun p hp => Nat.ne_of_lt (hlt p hp)) hd rfl ?_ rfl fun h' o' F' N' hd' hf' => h h' o' F' N' hd' hf'
  show ([k] : List Int).Nodup
  simp
end
end Mine
end
section
open PySem PySem.W PyProof.Rows PySem.Calls PySem.Spec PyProof.V
set_option maxRecDepth 100000
set_option maxHeartbeats 8000000
namespace Mine
local macro_rules | `(tactic| walk_at "eval ListComp") => `(tactic| refine stop_here ?_)
local macro_rules | `(tactic| walk_at "CompSrc") => `(tactic| refine stop_here ?_)
local macro_rules | `(tactic| walk_at "exec For Name Call") => `(tactic| refine stop_here ?_)
local macro_rules | `(tactic| walk_at "exec For Name Call cons nil") => `(tactic| refine stop_here ?_)
def cell (xs : List Int) (p : Int) (i j : Int) : Int := if p - i + j ≥ 0 then xs.getD (p - i + j).toNat 0 else 0
def row (xs : List Int) (p : Int) (i : Int) : List Int := [cell xs p i 0, cell xs p i 1, cell xs p i 2]
theorem row_getD {xs : List Int} {p i : Int} {j : Nat} (hj : j < 3) : (row xs p i).getD j 0 = cell xs p i j := by
  match j, hj with
  | 0, _ => rfl
  | 1, _ => rfl
  | 2, _ => rfl
theorem three_of {α : Type} {l : List α} (h : l.length = 3) : ∃ a b c, l = [a, b, c] := by
  match l, h with
  | [a, b, c], _ => exact ⟨a, b, c, rfl⟩
/-- three rows of ints -/
def Mat (h : Heap) (r : Addr) (x y z : List Int) : Prop := ∃ r0 r1 r2, h.IsList r [Value.ref r0, Value.ref r1, Value.ref r2].toArray ∧ IL h r0 x ∧ IL h r1 y ∧ IL h r2 z
theorem Mat.keeps {h h' : Heap} {r : Addr} {x y z : List Int} (H : Mat h r x y z) (k : Keeps h h') : Mat h' r x y z := by
  obtain ⟨r0, r1, r2, a, b, c, d⟩ := H
  exact ⟨r0, r1, r2, a.at fun o e => k _ o e, b.keeps k, c.keeps k, d.keeps k⟩
theorem square_spec {w : World} {mg mb : Str → Option Value} {s : Shared} (O : Ok w mg mb s.heap) {l q : Addr} {xs : List Int} {p0 p1 p2 : Int} (h₂ : IL s.heap l xs) (hx : xs.length = 6) (h₃ : IL s.heap q [p0, p1, p2])
   (h0 : 0 ≤ p0) (h0' : p0 ≤ 3) (h1 : 0 ≤ p1) (h1' : p1 ≤ 3) (h2 : 0 ≤ p2) (h2' : p2 ≤ 3)  :
    Spec w 200 [.ref l, .ref q] s 2 20 (fun v h => ∃ r, v = .ref r ∧ s.heap.get? r = none ∧ Mat h r (row xs p0 0) (row xs p1 1) (row xs p2 2)) := by
  unfold Spec
  intro dp un fr gs Q hR hQ
  have hO : ∀ {h : Heap}, Keeps s.heap h → Ok w mg mb h := fun k => O.keeps k
  obtain ⟨vs, hvs, hav⟩ := h₂
  obtain ⟨ps, hps, hap⟩ := h₃
  obtain ⟨t0, ps0, rfl, hap0⟩ := hap.cons_inv
  obtain ⟨t1, ps1, rfl, hap1⟩ := hap0.cons_inv
  obtain ⟨t2, ps2, rfl, hap2⟩ := hap1.cons_inv
  obtain rfl := hap2.nil_inv
  obtain ⟨X, T⟩ := O
  revert X; k_fill; intro X
  refine wpAny_call ?_
  k_dflt (refine' enterXC X T [(Str.ofString "sums", .ref l), (Str.ofString "parts", .ref q)] ?k6 ?k7 ?k8 ?k9 ?kB ?kN ?_ ?c2 ?c3 ?c4; (case k6 => k_is); (case k7 => k_is); (case k8 => (have := hR.d; dsimp only at this ⊢; omega)); (case k9 => exact rfl); (case kB => (intro n x hx; simp only [List.mem_cons, List.not_mem_nil, or_false] at hx; rcases hx with rfl | rfl <;> first | exact .inl rfl | exact .inr ⟨rfl, rfl⟩)); (case kN => decide); (case c2 => exact rfl); (case c3 => exact rfl); (case c4 => exact rfl); k_whole; intro h' tk' cells' F' N' Y'; k_cells Y'; (try dsimp only))
  (with_reducible show wpAny _ _ _ _ _ _)
  k_fold
  have hRd := fun env => Room.deeper (env := env) hR
  k_steps
  rename Fr _ _ _ _ => F; rename News _ _ _ _ => N
  refine go_on ?_
  refine forT F ?_
  k_steps
  rename (IsRange _ _ _ _ _ _ _ _) => hr1
  rename Fr _ _ _ _ => F1; rename News _ _ _ _ => N1
  (try dsimp only)
  rename_i o1 o2 o3 d1 d2 d3 rr _ hlt _ _ _ _ _ _ _ _ _
  replace d1 : ∃ v, o1.data = .cell v := ⟨_, d1⟩
  replace d2 : o2.data = .cell (some (.ref q)) := d2
  replace d3 : o3.data = .cell (some (.ref l)) := d3
  let prow : Nat → Int := fun i => [p0, p1, p2].getD i 0
  refine rangeAt1 (n := 3) (hRd _).h F1 N1 hr1 (by decide) (by decide)
    (fun i m news => m (Str.ofString "rows") = some (.ref rr) ∧ ∃ (inner : List (Addr × Obj)) (ci : Obj), (∃ v, ci.data = .cell v) ∧ inner.length = i ∧
      news = (rr, W.listOf (inner.map fun p : Addr × Obj => Value.ref p.1).toArray i) :: (s.heap.objs.size + 1 + 1 + 1, ci) :: (s.heap.objs.size + 1 + 1, o2) :: (s.heap.objs.size + 1, o3) :: inner ∧
      (∀ p ∈ inner, p.1 ≠ rr ∧ p.1 ≠ s.heap.objs.size + 1 + 1 + 1) ∧ ∀ (j : Nat) (p : Addr × Obj), inner[j]? = some p → ∃ vs, p.2 = LCg.lst vs ∧ IntsAre vs (row xs (prow j) j))
    ⟨rfl, [], o1, d1, rfl, rfl, (fun _ hp => nomatch hp), (fun j p h => by simp at h)⟩ ?step ?done
  case step =>
    rintro I hI i ti h3 hi m₁ news₁ tk3 oI ⟨hm1, inner, ci, ⟨cv, hcv⟩, hlen, rfl, hin, hrows⟩ hap F3 N3
    clear F1 N1 hr1
    have hIr := ltN (hI _ (.head _))
    have hIc := ltN (hI _ (.tail _ (.head _)))
    have hlt1 : @Ne Nat rr (s.heap.objs.size + 1 + 1 + 1) := by have := hlt.1; omega
    have F4 := Fr.ov (l := [(Str.ofString "rows", _)]) F3 (by intro p hp; simp only [List.mem_cons, List.not_mem_nil, or_false] at hp; rcases hp with rfl <;> assumption); clear F3
    k_steps
    rename Fr _ _ _ _ => F; rename News _ _ _ _ => N
    refine stCell (c := s.heap.objs.size + 1 + 1 + 1) (o := ci) (post := (s.heap.objs.size + 1 + 1, o2) :: (s.heap.objs.size + 1, o3) :: inner) (pre := [(I, oI), (rr, W.listOf (inner.map fun p : Addr × Obj => Value.ref p.1).toArray i)]) F N (by rfl) hcv ?_ ?_ ?_ rfl rfl
    · intro p hp
      simp only [List.mem_cons, List.not_mem_nil, or_false] at hp
      rcases hp with rfl | rfl
      · exact Nat.ne_of_gt hIc
      · exact hlt1
    · intro p hp
      simp only [List.mem_cons] at hp
      rcases hp with rfl | rfl | hp
      · exact neN (by show _ ≠ _; omega)
      · exact neN (by show _ ≠ _; omega)
      · exact (hin p hp).2
    intro h4 ci' F4 N4 hci'
    clear F N
    k_steps
    rename Fr _ _ _ _ => F; rename News _ _ _ _ => N
    refine go_on ?_
    refine LCg.ListComp_U (F₀ := F) (by with_unfolding_all rfl) (by decide) (by rfl) (by decide) (by rfl) ?_
    k_steps
    rename Fr _ _ _ _ => F; rename News _ _ _ _ => N
    rename (IsRange _ _ _ _ _ _ _ _) => hr2
    dsimp only
    refine go_on ?_
    refine LCg.CompSrc.range (by rfl) F N hr2 (by decide) (by decide) (n := 3) (by decide) ?_
    intro g
    dsimp only
    have hpb : 0 ≤ [p0, p1, p2].getD (0 + (i : Int) * 1).toNat 0 ∧ [p0, p1, p2].getD (0 + (i : Int) * 1).toNat 0 ≤ 3 := by
      have e : (0 + (i : Int) * 1).toNat = i := by omega
      rw [e]
      match i, hi with
      | 0, _ => exact ⟨h0, h0'⟩
      | 1, _ => exact ⟨h1, h1'⟩
      | 2, _ => exact ⟨h2, h2'⟩
    refine comp_pure (fun j y => ∃ t, y = .int ((row xs (prow i) i).getD j 0) t) trivial ?_ ?_
    · rintro j v ys I2 oI2 C oC D m2 h8 tk8 E8 hj ⟨t8, rfl⟩ hC hx8 F8 N8 off ne8
      clear F N
      dsimp only
      have hc8 : (row xs (prow i) i).getD j 0 = if 0 ≤ [p0, p1, p2].getD (0 + (i : Int) * 1).toNat 0 - (0 + (i : Int) * 1) + (0 + (j : Int)) then xs.getD ([p0, p1, p2].getD (0 + (i : Int) * 1).toNat 0 - (0 + (i : Int) * 1) + (0 + (j : Int))).toNat 0 else 0 := by
        rw [row_getD hj]
        have e1 : (0 + (i : Int) * 1).toNat = i := by omega
        have e2 : (0 + (i : Int) * 1) = (i : Int) := by omega
        have e3 : (0 + (j : Int)) = (j : Int) := by omega
        rw [e1, e2, e3]
        rfl
      k_steps
      · rename (0 ≤ _) => hcc
        rw [if_pos hcc] at hc8
        exact EltEnd.mk F8 N8 ⟨_, by rw [hc8]⟩
      · rename (¬ (_ ≤ _)) => hcc
        rw [if_neg hcc] at hc8
        exact EltEnd.mk F8 N8 ⟨_, by rw [hc8]⟩
    · intro zs hz hzs D h5 tk5 F5 N5 off5
      clear F N
      have hzi : IntsAre zs (row xs (prow i) i) := ints_of (by rw [hz]; rfl) hzs
      dsimp only
      k_steps
      rename Fr _ _ _ _ => F; rename News _ _ _ _ => N
      obtain ⟨oD1, oD2, oD3, oD4, oD5, oD6⟩ := off5
      refine appL (pre := [(D, LCg.lst zs), (I, oI)]) (D := rr) (its := (inner.map fun p : Addr × Obj => Value.ref p.1).toArray) (n := i) (post := (s.heap.objs.size + 1 + 1 + 1, ci') :: (s.heap.objs.size + 1 + 1, o2) :: (s.heap.objs.size + 1, o3) :: inner) F N ?_ ?_ (by rw [List.size_toArray, List.length_map, hlen]; omega) ?_
      · intro p hp
        simp only [List.mem_cons, List.not_mem_nil, or_false] at hp
        rcases hp with rfl | rfl
        · exact Ne.symm oD2
        · exact Nat.ne_of_gt hIr
      · intro p hp
        simp only [List.mem_cons] at hp
        rcases hp with rfl | rfl | rfl | hp
        · exact Ne.symm hlt1
        · exact neN (by have := hlt.2.1; show _ ≠ _; omega)
        · exact neN (by have := hlt.2.2; show _ ≠ _; omega)
        · exact (hin p hp).1
      intro h6 F6 N6
      clear F N
      k_steps
      rename Fr _ _ _ _ => F; rename News _ _ _ _ => N
      have hpush : (inner.map fun p : Addr × Obj => Value.ref p.1).toArray.push (Value.ref D) = ((inner ++ [(D, LCg.lst zs)]).map fun p : Addr × Obj => Value.ref p.1).toArray := by simp
      rw [hpush] at N
      refine EndS.next ((rr, W.listOf ((inner ++ [(D, LCg.lst zs)]).map fun p : Addr × Obj => Value.ref p.1).toArray (i + 1)) :: (s.heap.objs.size + 1 + 1 + 1, ci') :: (s.heap.objs.size + 1 + 1, o2) :: (s.heap.objs.size + 1, o3) :: (inner ++ [(D, LCg.lst zs)])) F ?_ ?_ ⟨rfl, inner ++ [(D, LCg.lst zs)], ci', ⟨_, hci'⟩, by rw [List.length_append, hlen]; rfl, rfl, ?_, ?_⟩
      · intro p hp
        refine N p ?_
        rcases List.mem_cons.mp hp with rfl | hp
        · exact .tail _ (.head _)
        rcases List.mem_cons.mp hp with rfl | hp
        · exact .tail _ (.tail _ (.head _))
        rcases List.mem_cons.mp hp with rfl | hp
        · exact .tail _ (.tail _ (.tail _ (.head _)))
        rcases List.mem_cons.mp hp with rfl | hp
        · exact .tail _ (.tail _ (.tail _ (.tail _ (.head _))))
        rcases List.mem_cons.mp hp with rfl | hp
        · exact .tail _ (.tail _ (.tail _ (.tail _ (.tail _ (.head _)))))
        rcases List.mem_append.mp hp with hp | hp
        · exact .tail _ (.tail _ (.tail _ (.tail _ (.tail _ (.tail _ hp)))))
        · rw [List.mem_singleton.mp hp]; exact .head _
      · intro q' hq p hp
        rw [List.mem_singleton.mp hq]
        simp only [List.mem_cons, List.mem_append, List.not_mem_nil, or_false] at hp
        rcases hp with rfl | rfl | rfl | rfl | hp | rfl
        · exact Nat.ne_of_gt hIr
        · exact Nat.ne_of_gt hIc
        · exact neN (by show _ ≠ _; omega)
        · exact neN (by show _ ≠ _; omega)
        · exact Ne.symm (hap p (.tail _ (.tail _ (.tail _ (.tail _ hp)))))
        · exact oD1
      · intro p hp
        rcases List.mem_append.mp hp with hp | hp
        · exact hin p hp
        · rw [List.mem_singleton.mp hp]; exact ⟨Ne.symm oD2, Ne.symm oD3⟩
      · intro j p hp
        rw [List.getElem?_append] at hp
        split at hp
        · exact hrows j p hp
        · rename_i hj
          have e0 : j - inner.length = 0 := by
            cases e : j - inner.length with
            | zero => rfl
            | succ q => rw [e] at hp; cases hp
          rw [e0] at hp
          have hji : j = i := by omega
          obtain rfl := (Option.some.inj hp).symm
          exact ⟨zs, rfl, by rw [hji]; exact hzi⟩
  case done =>
    rintro h3 tk3 m₁ news₁ F3 N3 ⟨hm1, inner, ci, _, hlen, rfl, hin, hrows⟩
    clear F1 N1 hr1
    have F4 := Fr.ov (l := [(Str.ofString "rows", _)]) F3 (by intro p hp; simp only [List.mem_cons, List.not_mem_nil, or_false] at hp; rcases hp with rfl <;> assumption); clear F3
    obtain ⟨a0, a1, a2, rfl⟩ := three_of hlen
    obtain ⟨v0, e0, i0⟩ := hrows 0 a0 rfl
    obtain ⟨v1, e1, i1⟩ := hrows 1 a1 rfl
    obtain ⟨v2, e2, i2⟩ := hrows 2 a2 rfl
    clear hrows hin
    k_steps
    rename Fr _ _ _ _ => F; rename News _ _ _ _ => N
    have q := N _ (.head _)
    have q0 := (N a0 (.tail _ (.tail _ (.tail _ (.tail _ (.head _)))))).1
    have q1 := (N a1 (.tail _ (.tail _ (.tail _ (.tail _ (.tail _ (.head _))))))).1
    have q2 := (N a2 (.tail _ (.tail _ (.tail _ (.tail _ (.tail _ (.tail _ (.head _)))))))).1
    rw [e0] at q0
    rw [e1] at q1
    rw [e2] at q2
    exact hQ _ _ _ F.keep ⟨rr, rfl, q.2.2, a0.1, a1.1, a2.1, ⟨_, q.1, rfl, _, rfl⟩, ⟨v0, ⟨_, q0, rfl, _, rfl⟩, i0⟩, ⟨v1, ⟨_, q1, rfl, _, rfl⟩, i1⟩, ⟨v2, ⟨_, q2, rfl, _, rfl⟩, i2⟩⟩
end Mine
end
section
open PySem PySem.W PyProof.Rows PySem.Calls PySem.Spec PyProof.V
set_option maxRecDepth 100000
set_option maxHeartbeats 8000000
namespace Mine
local macro_rules | `(tactic| walk_at "exec For Name Call") => `(tactic| refine stop_here ?_)
local macro_rules | `(tactic| walk_at "exec For Name Call cons nil") => `(tactic| refine stop_here ?_)
local macro_rules | `(tactic| walk_at "eval Dict") => `(tactic| refine stop_here ?_)
local macro_rules | `(tactic| walk_at "eval Dict cons cons") => `(tactic| refine stop_here ?_)
local macro_rules | `(tactic| walk_at "call ref") => `(tactic| refine stop_here ?_)
def keyOf (a b c u l t : Int) : Int := 100 * t + 10 * (u + l - t) + a + b + c - u - l
def stepF (a b c u l : Int) (T : List (Int × Int)) (k : Nat) : List (Int × Int) := addc T [(keyOf a b c u l (l + k), 1)]
def lowF (a b c u : Int) (T : List (Int × Int)) (j : Nat) : List (Int × Int) := (List.range (u - (c + j) + 1).toNat).foldl (stepF a b c u (c + j)) T
def uppF (a b c : Int) (T : List (Int × Int)) (i : Nat) : List (Int × Int) := (List.range (b - c + 1).toNat).foldl (lowF a b c (b + i)) T
def fillings (a b c : Int) : List (Int × Int) := (List.range (a - b + 1).toNat).foldl (uppF a b c) []
theorem fold_range {α : Type} (f : α → Nat → α) (x : α) (i : Nat) : (List.range (i + 1)).foldl f x = f ((List.range i).foldl f x) i := by
  rw [List.range_succ, List.foldl_append]; rfl
/-- the table, on the ledger -/
def TabJ (w : World) (d : List (Int × Int)) (m : Str → Option Value) (pre news : List (Addr × Obj)) : Prop :=
  ∃ r o kvs, m (Str.ofString "table") = some (.ref r) ∧ news = pre ++ [(r, o)] ∧ o.IsDictOf (IK w) kvs ∧ FlatPairs PyData.int kvs (enc d) ∧ (r == sysModules) = false ∧ ∀ q ∈ pre, q.1 ≠ r
theorem fillings_spec {w : World} {mg mb : Str → Option Value} {s : Shared} (O : Ok w mg mb s.heap) {a b c : Int} {ta tb tc : Tok} (h0 : 0 ≤ c) (h1 : c ≤ b) (h2 : b ≤ a) (h3 : a ≤ 3) :
    Spec w 160 [.int a ta, .int b tb, .int c tc] s 2 20 (fun v h => ∃ r, v = .ref r ∧ IsD w h r (fillings a b c) ∧ s.heap.get? r = none) := by
  unfold Spec
  intro dp un fr gs Q hR hQ
  have hO : ∀ {h : Heap}, Keeps s.heap h → Ok w mg mb h := fun k => O.keeps k
  obtain ⟨X, T⟩ := O
  revert X; k_fill; intro X
  refine wpAny_call ?_
  k_dflt (refine' enterX X T [(Str.ofString "a", .int a ta), (Str.ofString "b", .int b tb), (Str.ofString "c", .int c tc)] ?k6 ?k7 ?k8 ?k9 ?kB ?kN ?_ ?c2 ?c3 ?c4 ?c5; (case k6 => k_is); (case k7 => k_is); (case k8 => (have := hR.d; dsimp only at this ⊢; omega)); (case k9 => exact rfl); (case c5 => decide); (case kB => exact locs rfl); (case kN => (dsimp only [List.map]; decide)); (case c2 => exact rfl); (case c3 => exact rfl); (case c4 => exact rfl); k_whole; intro h' F' N'; (try dsimp only))
  k_fold
  have hRd := fun env => Room.deeper (env := env) hR
  k_steps
  rename Fr _ _ _ _ => F; rename News _ _ _ _ => N
  refine go_on ?_
  refine forT F ?_
  k_steps
  rename (IsRange _ _ _ _ _ _ _ _) => hr1
  rename Fr _ _ _ _ => F1; rename News _ _ _ _ => N1
  (try dsimp only)
  rename (_ == sysModules) = false => lo0
  rename Obj.IsDictOf (intKind _ _) _ _ => hi0
  rename FlatPairs PyData.int _ _ => hf0
  refine rangeAt (n := (a - b + 1).toNat) (hRd _).h F1 N1 hr1 (range_small (by omega) (by omega) (by omega) (by omega) (by omega)) (by unfold Builtin.Range.rangeSize; split <;> (try split) <;> omega)
    (fun i m news => m (Str.ofString "a") = some (.int a ta) ∧ m (Str.ofString "b") = some (.int b tb) ∧ m (Str.ofString "c") = some (.int c tc) ∧ ((List.range i).foldl (uppF a b c) []).length ≤ 16 * i ∧ TabJ w ((List.range i).foldl (uppF a b c) []) m [] news)
    ⟨rfl, rfl, rfl, Nat.le_refl _, _, _, _, rfl, rfl, hi0, hf0, lo0, fun _ hq => nomatch hq⟩ ?step ?done
  case step =>
    rintro i ti h3 hi m₁ news₁ tk3 own ⟨hm1, hm2, hm3, hlen, r, o, kvs, hm4, rfl, hio, hfo, lo, hpre⟩ hap hown F3 N3
    clear F1 N1 hr1
    rw [show b + (i : Int) * 1 = b + i by omega]
    have F4 := Fr.ov (l := [(Str.ofString "a", _), (Str.ofString "b", _), (Str.ofString "c", _), (Str.ofString "table", _)]) F3 (by intro p hp; simp only [List.mem_cons, List.not_mem_nil, or_false] at hp; rcases hp with rfl | rfl | rfl | rfl <;> assumption); clear F3
    k_steps
    rename Fr _ _ _ _ => F; rename News _ _ _ _ => N
    refine go_on ?_
    refine forT F ?_
    k_steps
    rename (IsRange _ _ _ _ _ _ _ _) => hr1
    rename Fr _ _ _ _ => F1; rename News _ _ _ _ => N1
    (try dsimp only)
    generalize hT0 : (List.range i).foldl (uppF a b c) [] = T0 at hlen hfo
    have hlen0 : T0.length ≤ 64 := by omega
    refine rangeAt (n := (b - c + 1).toNat) (hRd _).h F1 N1 hr1 (range_small (by omega) (by omega) (by omega) (by omega) (by omega)) (by unfold Builtin.Range.rangeSize; split <;> (try split) <;> omega)
      (fun j m news => m (Str.ofString "a") = some (.int a ta) ∧ m (Str.ofString "b") = some (.int b tb) ∧ m (Str.ofString "c") = some (.int c tc) ∧ m (Str.ofString "upper") = some (.int (b + i) ti) ∧
        ((List.range j).foldl (lowF a b c (b + i)) T0).length ≤ T0.length + 4 * j ∧ TabJ w ((List.range j).foldl (lowF a b c (b + i)) T0) m own news)
      ⟨rfl, rfl, rfl, rfl, Nat.le_refl _, _, _, _, rfl, rfl, hio, hfo, lo, fun q hq => hap q hq _ (.head _)⟩ ?step2 ?done2
    case step2 =>
      rintro j tj h5 hj m₅ news₅ tk5 own5 ⟨hm1, hm2, hm3, hm5, hlen5, r5, o5, kvs5, hm4, rfl, hio5, hfo5, lo5, hpre5⟩ hap5 hown5 F5 N5
      clear F1 N1 hr1
      rw [show c + (j : Int) * 1 = c + j by omega]
      have F4 := Fr.ov (l := [(Str.ofString "a", _), (Str.ofString "b", _), (Str.ofString "c", _), (Str.ofString "upper", _), (Str.ofString "table", _)]) F5 (by intro p hp; simp only [List.mem_cons, List.not_mem_nil, or_false] at hp; rcases hp with rfl | rfl | rfl | rfl | rfl <;> assumption); clear F5
      k_steps
      rename Fr _ _ _ _ => F; rename News _ _ _ _ => N
      refine go_on ?_
      refine forT F ?_
      k_steps
      rename (IsRange _ _ _ _ _ _ _ _) => hr1
      rename Fr _ _ _ _ => F1; rename News _ _ _ _ => N1
      (try dsimp only)
      generalize hT5 : (List.range j).foldl (lowF a b c (b + i)) T0 = T5 at hlen5 hfo5
      have hlen50 : T5.length ≤ 100 := by omega
      refine rangeAt (n := (b + i - (c + j) + 1).toNat) (hRd _).h F1 N1 hr1 (range_small (by omega) (by omega) (by omega) (by omega) (by omega)) (by unfold Builtin.Range.rangeSize; split <;> (try split) <;> omega)
        (fun k m news => m (Str.ofString "a") = some (.int a ta) ∧ m (Str.ofString "b") = some (.int b tb) ∧ m (Str.ofString "c") = some (.int c tc) ∧ m (Str.ofString "upper") = some (.int (b + i) ti) ∧ m (Str.ofString "lower") = some (.int (c + j) tj) ∧
          ((List.range k).foldl (stepF a b c (b + i) (c + j)) T5).length ≤ T5.length + k ∧ TabJ w ((List.range k).foldl (stepF a b c (b + i) (c + j)) T5) m (own5 ++ own) news)
        ⟨rfl, rfl, rfl, rfl, rfl, Nat.le_refl _, _, _, _, rfl, (List.append_assoc _ _ _).symm, hio5, hfo5, lo5, fun q hq => (List.mem_append.mp hq).elim (fun hq => hap5 q hq (r5, o5) (List.mem_append_right _ (.head _))) (hpre5 q)⟩ ?step3 ?done3
      case step3 =>
        rintro k tk' h7 hk m₇ news₇ tk7 own7 ⟨hm1, hm2, hm3, hm5, hm6, hlen7, r7, o7, kvs7, hm4, rfl, hio7, hfo7, lo7, hpre7⟩ hap7 hown7 F7 N7
        clear F1 N1 hr1
        rw [show c + (j : Int) + (k : Int) * 1 = c + j + k by omega]
        generalize hT7 : (List.range k).foldl (stepF a b c (b + i) (c + j)) T5 = T7 at hlen7 hfo7
        have F4 := Fr.ov (l := [(Str.ofString "a", _), (Str.ofString "b", _), (Str.ofString "c", _), (Str.ofString "upper", _), (Str.ofString "lower", _), (Str.ofString "table", _)]) F7 (by intro p hp; simp only [List.mem_cons, List.not_mem_nil, or_false] at hp; rcases hp with rfl | rfl | rfl | rfl | rfl | rfl <;> assumption); clear F7
        k_steps
        rename Fr _ _ _ _ => F; rename News _ _ _ _ => N
        dsimp only
        refine go_on ?_
        refine dict1 F N (TopRead.nolimit T) ?_
        intro d8 h8 o8 F8 N8 lt8 lo8 hd8
        clear F N
        dsimp only
        k_steps
        rename Fr _ _ _ _ => F; rename News _ _ _ _ => N
        refine dict1_made F N lt8 hd8 ?_
        intro h9 o9 F9 N9 hd9 hf9
        clear F N
        dsimp only
        k_steps
        rename Fr _ _ _ _ => F; rename News _ _ _ _ => N
        have hk9 : (100 * (c + (j : Int) + k) + 10 * (b + (i : Int) + (c + (j : Int)) - (c + (j : Int) + k)) + a + b + c - (b + (i : Int)) - (c + (j : Int))) = keyOf a b c (b + i) (c + j) (c + j + k) := rfl
        refine go_on ?_
        refine use (add_callers_spec (hO (by exact F.keep)) (IsD.ofN N (.tail _ (List.mem_append_right _ (List.mem_append_right _ (.head _)))) lo7 hio7 hfo7) (IsD.ofN N (.head _) lo8 hd9 hf9) (by show _ + 1 ≤ 1000; omega)) F N ((hRd _).le (by decide) (by decide)) ?_
        rintro _ h10 tk10 k10 F10 N10 ⟨r', rfl, hD', hn'⟩
        obtain ⟨lo', kvs', hdo', hf'⟩ := hD'
        obtain ⟨o', ho', hio'⟩ := Heap.dictOf_iff.mp hdo'
        have N11 := newsAdd F N k10 hn' ho'
        have hne : ∀ q ∈ own7 ++ (own5 ++ own ++ [(r7, o7)]), q.1 ≠ r' := by
          intro q hq e
          have := (N q (.tail _ hq)).1
          have hn2 := hn'
          dsimp only at hn2
          rw [e, hn2] at this; cases this
        clear F N N10
        k_steps
        rename Fr _ _ _ _ => F; rename News _ _ _ _ => N
        refine EndS.next (own5 ++ own ++ [(r', o')]) F ?_ ?_ ⟨rfl, rfl, rfl, rfl, rfl, ?_, r', o', kvs', rfl, rfl, hio', ?_, lo', fun q hq => hne q (List.mem_append_right _ (List.mem_append_left _ hq))⟩
        · intro p hp
          refine N p ?_
          rcases List.mem_append.mp hp with hp | hp
          · exact .tail _ (.tail _ (List.mem_append_left _ hp))
          rcases List.mem_append.mp hp with hp | hp
          · exact .tail _ (.tail _ (List.mem_append_right _ (List.mem_append_left _ hp)))
          · rw [List.mem_singleton.mp hp]; exact .head _
        · intro q hq p hp
          rcases List.mem_append.mp hp with hp | hp
          · exact hap7 q hq p (List.mem_append_left _ hp)
          · rw [List.mem_singleton.mp hp]; exact hne q (List.mem_append_left _ hq)
        · rw [fold_range, hT7]
          exact Nat.le_trans (addc_length _ _) (by show _ + 1 ≤ _; omega)
        · rw [fold_range, hT7]; exact hf'
      case done3 =>
        rintro h7 tk7 m₇ news₇ F7 N7 ⟨hm1, hm2, hm3, hm5, hm6, hlen7, r7, o7, kvs7, hm4, rfl, hio7, hfo7, lo7, hpre7⟩
        clear F1 N1 hr1
        have F4 := Fr.ov (l := [(Str.ofString "a", _), (Str.ofString "b", _), (Str.ofString "c", _), (Str.ofString "upper", _), (Str.ofString "table", _)]) F7 (by intro p hp; simp only [List.mem_cons, List.not_mem_nil, or_false] at hp; rcases hp with rfl | rfl | rfl | rfl | rfl <;> assumption); clear F7
        k_steps
        rename Fr _ _ _ _ => F; rename News _ _ _ _ => N
        refine EndS.next (own ++ [(r7, o7)]) F (by rw [← List.append_assoc]; exact N) ?_ ⟨rfl, rfl, rfl, rfl, ?_, r7, o7, kvs7, rfl, rfl, hio7, ?_, lo7, fun q hq => hpre7 q (List.mem_append_right _ hq)⟩
        · intro q hq p hp
          rcases List.mem_append.mp hp with hp | hp
          · exact hap5 q hq p (List.mem_append_left _ hp)
          · rw [List.mem_singleton.mp hp]; exact hpre7 q (List.mem_append_left _ hq)
        · rw [fold_range, hT5]
          refine Nat.le_trans hlen7 ?_
          omega
        · rw [fold_range, hT5]; exact hfo7
    case done2 =>
      rintro h5 tk5 m₅ news₅ F5 N5 ⟨hm1, hm2, hm3, hm5, hlen5, r5, o5, kvs5, hm4, rfl, hio5, hfo5, lo5, hpre5⟩
      clear F1 N1 hr1
      have F4 := Fr.ov (l := [(Str.ofString "a", _), (Str.ofString "b", _), (Str.ofString "c", _), (Str.ofString "table", _)]) F5 (by intro p hp; simp only [List.mem_cons, List.not_mem_nil, or_false] at hp; rcases hp with rfl | rfl | rfl | rfl <;> assumption); clear F5
      k_steps
      rename Fr _ _ _ _ => F; rename News _ _ _ _ => N
      refine EndS.next [(r5, o5)] F N ?_ ⟨rfl, rfl, rfl, ?_, r5, o5, kvs5, rfl, rfl, hio5, ?_, lo5, fun _ hq => nomatch hq⟩
      · intro q hq p hp
        rw [List.mem_singleton.mp hp]; exact hpre5 q hq
      · rw [fold_range, hT0]
        refine Nat.le_trans hlen5 ?_
        omega
      · rw [fold_range, hT0]; exact hfo5
  case done =>
    rintro h3 tk3 m₁ news₁ F3 N3 ⟨hm1, hm2, hm3, hlen, r, o, kvs, hm4, rfl, hio, hfo, lo, hpre⟩
    clear F1 N1 hr1
    have F4 := Fr.ov (l := [(Str.ofString "table", _)]) F3 (by intro p hp; simp only [List.mem_cons, List.not_mem_nil, or_false] at hp; rcases hp with rfl <;> assumption); clear F3
    k_steps
    rename Fr _ _ _ _ => F; rename News _ _ _ _ => N
    exact hQ _ _ _ F.keep ⟨r, rfl, IsD.ofN N (.head _) lo hio hfo, (N _ (.head _)).2.2⟩
end Mine
end
section
open PySem PySem.W PyProof.Rows PySem.Calls PySem.Spec PyProof.V
set_option maxRecDepth 100000
set_option maxHeartbeats 8000000
namespace Mine
local macro_rules | `(tactic| walk_at "exec For Tuple Call") => `(tactic| refine stop_here ?_)
local macro_rules | `(tactic| walk_at "exec For Tuple Call cons nil") => `(tactic| refine stop_here ?_)
local macro_rules | `(tactic| walk_at "call type:enumerate") => `(tactic| refine stop_here ?_)
local macro_rules | `(tactic| walk_at "binaryOp Pow int int") => `(tactic| refine stop_here ?_)
theorem pow40 {prog : Program} {w : World} {A : Around} {E : Value → Shared → Prop} {s : Shared} {t u : Tok} {Q : Value → Shared → Prop} {M : Int} (hM : M = 10 ^ 40) (h : ∀ t' , Q (.int M t') { s with toks := s.toks + 1 }) :
    Stopped (wpAny (model prog w) A (binaryOp .Pow (.int 10 t) (.int 40 u)) Q E s) := by
  subst hM
  refine pow_int_small (by decide) (by decide) (by decide) ?_
  exact h _
theorem bnd0 {a : Int} (h : -3 ≤ a) (h' : a ≤ 3) : -(3 + ((0 : Nat) : Int) * 10 ^ 40) ≤ a ∧ a ≤ 3 + ((0 : Nat) : Int) * 10 ^ 40 := by
  rw [show ((0 : Nat) : Int) * 10 ^ 40 = 0 from Int.zero_mul _]; omega
theorem bnd1 {a : Int} {n : Nat} (h : -(3 + (n : Int) * 10 ^ 40) ≤ a ∧ a ≤ 3 + (n : Int) * 10 ^ 40) (hn : n ≤ 63) : Bd 200 a := by
  unfold Bd
  have e : (2:Nat)^200 = 1606938044258990275541962092341162602522202993782792835301376 := by decide
  have e2 : (10 : Int) ^ 40 = 10000000000000000000000000000000000000000 := by decide
  rw [e]
  rw [e2] at h
  omega
theorem bnd2 {a v : Int} {n : Nat} (h : -(3 + (n : Int) * 10 ^ 40) ≤ a ∧ a ≤ 3 + (n : Int) * 10 ^ 40) (h1 : -10 ^ 40 ≤ v) (h2 : v ≤ 10 ^ 40) : -(3 + ((n + 1 : Nat) : Int) * 10 ^ 40) ≤ a + v ∧ a + v ≤ 3 + ((n + 1 : Nat) : Int) * 10 ^ 40 := by
  have e2 : (10 : Int) ^ 40 = 10000000000000000000000000000000000000000 := by decide
  rw [e2] at *
  omega
theorem draws_spec {w : World} {mg mb : Str → Option Value} {s : Shared} (O : Ok w mg mb s.heap) {l : Addr} {xs : List Int} (h₂ : IL s.heap l xs) (hx : xs.length ≤ 63) :
    Spec w 143 [.ref l] s 1 10 (fun v h => ∃ r dv ds, v = .ref r ∧ s.heap.get? r = none ∧ (∃ n, h.get? r = some (W.listOf dv.toArray n)) ∧ IntsAre dv ds ∧ ds.length = 6 ∧ ∀ a ∈ ds, Bd 200 a) := by
  unfold Spec
  intro dp un fr gs Q hR hQ
  have hq2 : Unit → IL s.heap l xs := fun _ => h₂
  obtain ⟨vs, hvs, hav⟩ := h₂
  have hvl := IntsAre.length hav
  obtain ⟨X, T⟩ := O
  revert X; k_fill; intro X
  refine wpAny_call ?_
  k_dflt (refine' enterX X T [(Str.ofString "script", .ref l)] ?k6 ?k7 ?k8 ?k9 ?kB ?kN ?_ ?c2 ?c3 ?c4 ?c5; (case k6 => k_is); (case k7 => k_is); (case k8 => (have := hR.d; dsimp only at this ⊢; omega)); (case k9 => exact rfl); (case c5 => decide); (case kB => exact locs rfl); (case kN => (dsimp only [List.map]; decide)); (case c2 => exact rfl); (case c3 => exact rfl); (case c4 => exact rfl); k_whole; intro h' F' N'; (try dsimp only))
  k_fold
  have hRd := fun env => Room.deeper (env := env) hR
  k_steps
  rename Fr _ _ _ _ => F; rename News _ _ _ _ => N
  refine go_on ?_
  refine forT F ?_
  k_steps
  rename Fr _ _ _ _ => F; rename News _ _ _ _ => N
  rename (IntsAre _ (List.take 60 xs)) => hI
  rename (List Value) => ws
  have hls := (N _ (.head _)).1
  have hlL := (N _ (.head _)).2.1
  have hll := (N _ (.tail _ (.head _))).1
  refine go_on ?_
  (try dsimp only)
  refine enumAt (hRd _).h F (fun p hp => N p (.tail _ hp)) ⟨_, hls, rfl, _, rfl⟩ hlL (fun p hp => by rw [List.mem_singleton.mp hp]; exact Nat.ne_of_lt (by assumption))
    (fun i m news => m (Str.ofString "draws") = some (.ref _) ∧ ∃ dv ds, news = [(_, W.listOf dv.toArray 0)] ∧ IntsAre dv ds ∧ ds.length = 6 ∧ ∀ a ∈ ds, -(3 + (i : Int) * 10 ^ 40) ≤ a ∧ a ≤ 3 + (i : Int) * 10 ^ 40)
    ⟨rfl, _, _, rfl, .cons _ _ (.cons _ _ (.cons _ _ (.cons _ _ (.cons _ _ (.cons _ _ .nil))))), rfl, by
      intro a ha
      simp only [List.mem_cons, List.not_mem_nil, or_false] at ha
      rcases ha with rfl | rfl | rfl | rfl | rfl | rfl <;> exact bnd0 (by decide) (by decide)⟩ ?step ?done
  case step =>
    rintro i T' x ti h3 hi hT m₁ news₁ tk3 own ⟨hm1, dv, ds, rfl, hdv, hdl, hdb⟩ hap hown F3 N3
    obtain ⟨n, tn, rfl, hn⟩ := IntsAre.at hI _ _ hi
    clear F N
    have F4 := Fr.ov (l := [(Str.ofString "draws", _)]) F3 (by intro p hp; simp only [List.mem_cons, List.not_mem_nil, or_false] at hp; rcases hp with rfl <;> assumption); clear F3
    obtain ⟨M, hM⟩ : ∃ M : Int, M = 10 ^ 40 := ⟨_, rfl⟩
    have hM0 : 0 < M := by rw [hM]; decide
    k_steps
    refine pow40 hM ?_
    intro t40
    dsimp only
    k_steps
    refine pow40 hM ?_
    intro t41
    dsimp only
    k_steps
    refine pow40 hM ?_
    intro t42
    dsimp only
    k_steps
    rename Fr _ _ _ _ => F; rename News _ _ _ _ => N
    have hk0 : 0 ≤ (i : Int).fmod 6 := by rw [Int.fmod_eq_emod_of_nonneg _ (by decide)]; omega
    have hk1 : (i : Int).fmod 6 < 6 := by rw [Int.fmod_eq_emod_of_nonneg _ (by decide)]; omega
    refine setL (post := []) F N (fun q hq e => hap q hq _ (.head _) e) (fun _ hp => nomatch hp) hk0 (by rw [IntsAre.length hdv, hdl]; exact hk1) (by omega) ?_
    intro h7 F7 N7
    clear F N
    k_steps
    rename Fr _ _ _ _ => F; rename News _ _ _ _ => N
    refine EndS.next [(_, W.listOf (dv.set ((i : Int).fmod 6).toNat _).toArray 0)] F N (fun q hq p hp => by rw [List.mem_singleton.mp hp]; exact hap q hq (_, W.listOf dv.toArray 0) (.head _)) ⟨rfl, _, ds.set ((i : Int).fmod 6).toNat _, rfl, ints_set hdv _, by rw [List.length_set]; exact hdl, ?_⟩
    intro a ha
    rcases List.mem_or_eq_of_mem_set ha with ha | rfl
    · have := bnd2 (v := 0) (hdb a ha) (by decide) (by decide)
      rwa [Int.add_zero] at this
    · have hat : ds.getD ((i : Int).fmod 6).toNat 0 ∈ ds := by
        rw [List.getD_eq_getElem?_getD, List.getElem?_eq_getElem (show ((i : Int).fmod 6).toNat < ds.length by rw [hdl]; omega)]; exact List.getElem_mem _
      have f0 := fmod_lo (n + M) (show 0 < 2 * M + 1 by omega)
      have f1 := fmod_hi (n + M) (show 0 < 2 * M + 1 by omega)
      exact bnd2 (hdb _ hat) (by rw [← hM]; omega) (by rw [← hM]; omega)
  case done =>
    rintro h3 tk3 m₁ news₁ F3 N3 ⟨hm1, dv, ds, rfl, hdv, hdl, hdb⟩
    clear F N
    have F4 := Fr.ov (l := [(Str.ofString "draws", _)]) F3 (by intro p hp; simp only [List.mem_cons, List.not_mem_nil, or_false] at hp; rcases hp with rfl <;> assumption); clear F3
    k_steps
    rename Fr _ _ _ _ => F; rename News _ _ _ _ => N
    have q := N _ (.head _)
    refine hQ _ _ _ F.keep ⟨_, dv, ds, rfl, q.2.2, ⟨_, q.1⟩, hdv, hdl, fun a ha => ?_⟩
    have hb := hdb a ha
    have hw : ws.length ≤ 63 := by rw [IntsAre.length hI, List.length_take]; omega
    exact bnd1 hb (by omega)
end Mine
end
section
open PySem PySem.W PyProof.Rows PySem.Calls PySem.Spec PyProof.V
set_option maxRecDepth 100000
set_option maxHeartbeats 8000000
namespace Mine
local macro_rules | `(tactic| walk_at "exec For Name Attribute") => `(tactic| refine stop_here ?_)
local macro_rules | `(tactic| walk_at "exec For Name Attribute cons nil") => `(tactic| refine stop_here ?_)
structure Wst where
  n : Int
  nt : Int
  b : Int
  cs : List Int
def tabAt (cs : List Int) (b : Nat) : List Int :=
  let c1 := if cs.length ≤ b then cs ++ List.replicate (b - cs.length + 1) 0 else cs
  c1.set b (c1.getD b 0 + 1)
def wstep (q : Wst) (c : Nat) : Wst := if c = 32 then ⟨q.n + 1, q.nt, q.b + 1, q.cs⟩ else ⟨q.n + 1, q.nt + 1, 0, tabAt q.cs q.b.toNat⟩
def wrun (l : List Nat) : Wst := l.foldl wstep ⟨0, 0, 0, []⟩
theorem wrun_take {l : List Nat} {i c : Nat} (h : l[i]? = some c) : wrun (l.take (i + 1)) = wstep (wrun (l.take i)) c := by
  unfold wrun
  rw [List.take_add_one, h, List.foldl_append]; rfl
theorem tabAt_length (cs : List Int) (b : Nat) : (tabAt cs b).length ≤ cs.length + b + 1 := by
  unfold tabAt
  dsimp only
  rw [List.length_set]
  split
  · rw [List.length_append, List.length_replicate]; omega
  · omega
theorem tabAt_max (cs : List Int) (b k : Nat) (h : cs.length ≤ k) (hb : b < k) : (tabAt cs b).length ≤ k := by
  unfold tabAt
  dsimp only
  rw [List.length_set]
  split
  · rw [List.length_append, List.length_replicate]; omega
  · omega
theorem tab1 {cs : List Int} {b : Int} (h : (cs.length : Int) ≤ b) : tabAt cs b.toNat = (cs ++ (List.replicate (b - cs.length + 1).toNat [(0 : Int)]).flatten).set b.toNat ((cs ++ (List.replicate (b - cs.length + 1).toNat [(0 : Int)]).flatten).getD b.toNat 0 + 1) := by
  unfold tabAt
  dsimp only
  have e : (b - cs.length + 1).toNat = b.toNat - cs.length + 1 := by omega
  rw [if_pos (by omega), e, List.flatten_replicate_singleton]
theorem tab2 {cs : List Int} {b : Int} (h : b < (cs.length : Int)) (h0 : 0 ≤ b) : tabAt cs b.toNat = cs.set b.toNat (cs.getD b.toNat 0 + 1) := by
  unfold tabAt
  dsimp only
  rw [if_neg (by omega)]
theorem apart3 {I a b c : Addr} {oI oa ob oc : Obj} (h1 : @Ne Nat I a) (h2 : @Ne Nat I b) (h3 : @Ne Nat I c) : Apart [(I, oI)] [(a, oa), (b, ob), (c, oc)] := by
  intro q hq p hp
  rw [List.mem_singleton.mp hq]
  simp only [List.mem_cons, List.not_mem_nil, or_false] at hp
  rcases hp with rfl | rfl | rfl
  · exact h1
  · exact h2
  · exact h3
theorem tup_ne_dict {h : Heap} {a b : Addr} {vs : Array Value} {es : List DictEntry} {n k : Nat} (ha : h.get? a = some { cls := .type "tuple", data := .seq vs n }) (hb : h.get? b = some (dictOf es k)) : @Ne Nat a b := by
  intro e
  have e' : a = b := e
  rw [e', hb] at ha
  have : (dictOf es k).cls = .type "tuple" := by rw [Option.some.inj ha]
  have h2 : Value.type "dict" = Value.type "tuple" := this
  injection h2 with h3
  exact absurd h3 (by decide)
/-- a Whitespace, whose run is q -/
def IsWs (w : World) (h : Heap) (a : Addr) (q : Wst) : Prop := ∃ dx T C cv x t k1 k2 k3 k4 k5 un unt ub sm, h.get? a = some (instObj 83 dx) ∧
  h.get? dx = some (dictOf [⟨PyData.keyHash w.params (Str.ofString "raw"), .str (Str.ofString "raw") k1, .str x t⟩, ⟨PyData.keyHash w.params (Str.ofString "n"), .str (Str.ofString "n") k2, .int q.n un⟩,
    ⟨PyData.keyHash w.params (Str.ofString "nt"), .str (Str.ofString "nt") k3, .int q.nt unt⟩, ⟨PyData.keyHash w.params (Str.ofString "norm"), .str (Str.ofString "norm") k4, .ref T⟩,
    ⟨PyData.keyHash w.params (Str.ofString "is_simple"), .str (Str.ofString "is_simple") k5, .bool sm⟩] 5) ∧ IsTup h T #[.ref C, .int q.b ub] ∧ IsTup h C cv.toArray ∧ IntsAre cv q.cs
theorem IsWs.keeps {w : World} {h h' : Heap} {a : Addr} {q : Wst} (H : IsWs w h a q) (k : Keeps h h') : IsWs w h' a q := by
  obtain ⟨dx, T, C, cv, x, t, k1, k2, k3, k4, k5, un, unt, ub, sm, h1, h2, h3, h4, h5⟩ := H
  exact ⟨dx, T, C, cv, x, t, k1, k2, k3, k4, k5, un, unt, ub, sm, k _ _ h1, k _ _ h2, IsTup.keeps h3 k, IsTup.keeps h4 k, h5⟩
/-- a Whitespace whose four objects are new -/
def WsX (w : World) (h₀ h : Heap) (a : Addr) (q : Wst) : Prop := ∃ dx T C cv x t k1 k2 k3 k4 k5 un unt ub sm, (h.get? a = some (instObj 83 dx) ∧ h₀.get? a = none) ∧
  (h.get? dx = some (dictOf [⟨PyData.keyHash w.params (Str.ofString "raw"), .str (Str.ofString "raw") k1, .str x t⟩, ⟨PyData.keyHash w.params (Str.ofString "n"), .str (Str.ofString "n") k2, .int q.n un⟩,
    ⟨PyData.keyHash w.params (Str.ofString "nt"), .str (Str.ofString "nt") k3, .int q.nt unt⟩, ⟨PyData.keyHash w.params (Str.ofString "norm"), .str (Str.ofString "norm") k4, .ref T⟩,
    ⟨PyData.keyHash w.params (Str.ofString "is_simple"), .str (Str.ofString "is_simple") k5, .bool sm⟩] 5) ∧ h₀.get? dx = none) ∧
  (h.get? T = some { cls := .type "tuple", data := .seq #[.ref C, .int q.b ub] } ∧ h₀.get? T = none) ∧ (h.get? C = some { cls := .type "tuple", data := .seq (List.toArray cv) } ∧ h₀.get? C = none) ∧ IntsAre cv q.cs
theorem WsX.ws {w : World} {h₀ h : Heap} {a : Addr} {q : Wst} (H : WsX w h₀ h a q) : IsWs w h a q := by
  obtain ⟨dx, T, C, cv, x, t, k1, k2, k3, k4, k5, un, unt, ub, sm, h1, h2, h3, h4, h5⟩ := H
  exact ⟨dx, T, C, cv, x, t, k1, k2, k3, k4, k5, un, unt, ub, sm, h1.1, h2.1, ⟨_, h3.1, rfl, _, rfl⟩, ⟨_, h4.1, rfl, _, rfl⟩, h5⟩
theorem WsX.before {w : World} {h₀ h₁ h : Heap} {a : Addr} {q : Wst} (k : ∀ b, h₁.get? b = none → h₀.get? b = none) (H : WsX w h₁ h a q) : WsX w h₀ h a q := by
  obtain ⟨dx, T, C, cv, x, t, k1, k2, k3, k4, k5, un, unt, ub, sm, h1, h2, h3, h4, h5⟩ := H
  exact ⟨dx, T, C, cv, x, t, k1, k2, k3, k4, k5, un, unt, ub, sm, ⟨h1.1, k _ h1.2⟩, ⟨h2.1, k _ h2.2⟩, ⟨h3.1, k _ h3.2⟩, ⟨h4.1, k _ h4.2⟩, h5⟩
theorem wrun_bd : ∀ (l : List Nat), l.length ≤ 20 → 0 ≤ (wrun l).b ∧ (wrun l).b ≤ l.length ∧ (wrun l).cs.length ≤ l.length := by
  intro l
  suffices h : ∀ (r l : List Nat), 0 ≤ (wrun l).b ∧ (wrun l).b ≤ l.length ∧ (wrun l).cs.length ≤ l.length → 0 ≤ (wrun (l ++ r)).b ∧ (wrun (l ++ r)).b ≤ (l ++ r).length ∧ (wrun (l ++ r)).cs.length ≤ (l ++ r).length by
    intro _
    have := h l [] ⟨Int.le_refl _, Int.le_refl _, Nat.le_refl _⟩
    simpa using this
  intro r
  induction r with
  | nil => intro l h; simpa using h
  | cons c r ih =>
    intro l h
    have e : l ++ c :: r = (l ++ [c]) ++ r := by simp
    rw [e]
    refine ih (l ++ [c]) ?_
    have e2 : wrun (l ++ [c]) = wstep (wrun l) c := by unfold wrun; rw [List.foldl_append]; rfl
    rw [e2, List.length_append]
    unfold wstep
    split
    · dsimp only [List.length_cons, List.length_nil]; omega
    · dsimp only [List.length_cons, List.length_nil]
      have := tabAt_max (wrun l).cs (wrun l).b.toNat (l.length + 1) (by omega) (by omega)
      omega
theorem ws_spec {w : World} {mg mb : Str → Option Value} {s : Shared} (O : Ok w mg mb s.heap) {x : Str} {body : List Nat} (hx : x.cps = (body ++ [120]).toArray) (hbody : ∀ c ∈ body, c = 32 ∨ c = 9) (hlen : body.length ≤ 20) (t : Tok) :
    Spec w 83 [.str x t] s 3 30 (fun v h => ∃ a, v = .ref a ∧ WsX w s.heap h a (wrun body)) := by
  unfold Spec
  intro dp un fr gs Q hR hQ
  obtain ⟨X, T⟩ := O
  obtain ⟨hh, g, dd, tk, os⟩ := s
  dsimp only at X T hQ ⊢
  revert X; k_fill; intro X
  refine wpAny_call ?_
  k_dflt (refine' make_core (makes_of X ?m1) (looks_findIn X ?m2) (fun self => bind_fn X self ?m3) (.inl rfl) ?_; (case m1 => k_is); (case m2 => k_is); (case m3 => k_is))
  have hRu := Room.under (c := .builtin "type.__call__" ⟨[.ref 83, .str x t], []⟩) (d := 1) (u := 20) (hR.le (by with_unfolding_all exact Nat.le_of_ble_eq_true rfl) (by with_unfolding_all exact Nat.le_of_ble_eq_true rfl))
  k_dflt (refine' enterX2 [(hh.objs.size + 1, instObj 83 hh.objs.size), (hh.objs.size, emptyDict)] X T (fun b o e => Heap.get?_push_of_some _ (Heap.get?_push_of_some _ e)) ?q1 ?q2 [(Str.ofString "self", .ref (hh.objs.size + 1)), (Str.ofString "ws", .str x t)] ?k6 ?k7 ?k8 ?k9 ?kB ?kN ?_ ?c2 ?c3 ?c4 ?c5; (case q1 => rw [Heap.size_push, Heap.size_push]; omega); (case q2 => exact fun p hp => by rcases List.mem_cons.mp hp with rfl | hp; exact ⟨by show ((hh.push emptyDict).push _).get? (hh.objs.size + 1) = _; rw [← Heap.size_push (h := hh) (o := emptyDict)]; exact Heap.get?_push_size _ rfl, Heap.get?_none_of_le (Nat.le_succ _)⟩; rw [List.mem_singleton.mp hp]; exact ⟨Heap.get?_push_of_some _ (Heap.get?_push_size _ rfl), Heap.get?_none_of_le (Nat.le_refl _)⟩); (case k6 => k_is); (case k7 => k_is); (case k8 => (have := hRu.d; omega)); (case k9 => exact rfl); (case c5 => decide); (case kB => exact locs rfl); (case kN => (dsimp only [List.map]; decide)); (case c2 => exact rfl); (case c3 => exact rfl); (case c4 => exact rfl); k_whole; intro L' h' F' N' lt'; (try dsimp only))
  have hRd := fun env => Room.deeper (env := env) hRu
  (with_reducible show wpAny _ _ _ _ _ _)
  k_fold
  k_steps
  rename Fr _ _ _ _ => F; rename News _ _ _ _ => N
  refine go_on ?_
  refine forT F ?_
  k_steps
  rename Fr _ _ _ _ => F; rename News _ _ _ _ => N
  (try dsimp only)
  have hlt0 : @LT.lt Nat _ (hh.objs.size + 1) _ := (by assumption : _ ∧ @LT.lt Nat _ (hh.objs.size + 1) _ ∧ _).2.1
  refine strAt1 (hRd _).h F (fun p hp => N p ((List.mem_cons.mp hp).elim (fun e => e ▸ .head _) fun hp => .tail _ (.tail _ hp)))
    (fun i m news => i ≤ body.length ∧ m (Str.ofString "self") = some (.ref (hh.objs.size + 1)) ∧ m (Str.ofString "S") = some (.str (Str.ofString " ") 209) ∧ m (Str.ofString "T") = some (.str (Str.ofString "\t") 210) ∧
      (∃ u, m (Str.ofString "n") = some (.int (wrun (body.take i)).n u)) ∧ (∃ u, m (Str.ofString "nt") = some (.int (wrun (body.take i)).nt u)) ∧ (∃ u, m (Str.ofString "b") = some (.int (wrun (body.take i)).b u)) ∧
      ∃ rc cv tkR, m (Str.ofString "count") = some (.ref rc) ∧ news = [(rc, W.listOf cv.toArray 0), (hh.objs.size + 1, instObj 83 hh.objs.size), (hh.objs.size, dictOf [⟨PyData.keyHash w.params (Str.ofString "raw"), .str (Str.ofString "raw") tkR, .str x t⟩] 1)] ∧ IntsAre cv (wrun (body.take i)).cs ∧ @LT.lt Nat _ (hh.objs.size + 1) rc)
    ⟨Nat.zero_le _, rfl, rfl, rfl, ⟨_, rfl⟩, ⟨_, rfl⟩, ⟨_, rfl⟩, _, [], _, rfl, rfl, .nil, hlt0⟩ ?step ?done
  case step =>
    rintro I hI i c u h3 hi m₁ news₁ tk3 oI ⟨hib, hm1, hm2, hm3, ⟨un, hm4⟩, ⟨unt, hm5⟩, ⟨ub, hm6⟩, rc, cv, tkR, hm7, rfl, hcv, hrc⟩ hap F3 N3
    have hI1 := ltN (hI _ (.tail _ (.head _)))
    have hIr : @Ne Nat rc I := hap _ (.head _)
    have hbd := wrun_bd (body.take i) (by rw [List.length_take]; omega)
    have htl : (body.take i).length ≤ 20 := by rw [List.length_take]; omega
    have hcl := IntsAre.length hcv
    clear F N
    have F4 := Fr.ov (l := [(Str.ofString "self", _), (Str.ofString "S", _), (Str.ofString "T", _), (Str.ofString "n", _), (Str.ofString "nt", _), (Str.ofString "b", _), (Str.ofString "count", _)]) F3 (by intro p hp; simp only [List.mem_cons, List.not_mem_nil, or_false] at hp; rcases hp with rfl | rfl | rfl | rfl | rfl | rfl | rfl <;> assumption); clear F3
    rw [hx] at hi
    have hi' : (body ++ [120])[i]? = some c := by simpa using hi
    rw [List.getElem?_append] at hi'
    split at hi'
    · have hw := wrun_take hi'
      rcases hbody c (List.mem_of_getElem? hi') with rfl | rfl
      · k_steps
        rename Fr _ _ _ _ => F; rename News _ _ _ _ => N
        exact EndS.next [(rc, W.listOf cv.toArray 0), (hh.objs.size + 1, instObj 83 hh.objs.size), (hh.objs.size, dictOf [⟨PyData.keyHash w.params (Str.ofString "raw"), .str (Str.ofString "raw") tkR, .str x t⟩] 1)] F N (apart3 hIr.symm (by omega) (by omega))
          ⟨by omega, rfl, rfl, rfl, ⟨_, by rw [hw]; rfl⟩, ⟨_, by rw [hw]; rfl⟩, ⟨_, by rw [hw]; rfl⟩, rc, cv, tkR, rfl, rfl, by rw [hw]; exact hcv, hrc⟩
      · k_steps
        · rename Fr _ _ _ _ => F; rename News _ _ _ _ => N
          rename (IntsAre (List.set _ _ _) _) => hset
          refine EndS.next [(_, W.listOf (List.toArray _) 0), (hh.objs.size + 1, instObj 83 hh.objs.size), (hh.objs.size, dictOf [⟨PyData.keyHash w.params (Str.ofString "raw"), .str (Str.ofString "raw") tkR, .str x t⟩] 1)] F (fun p hp => N p ?_) (apart3 (by omega) (by omega) (by omega))
            ⟨by omega, rfl, rfl, rfl, ⟨_, by rw [hw]; rfl⟩, ⟨_, by rw [hw]; rfl⟩, ⟨_, by rw [hw]; rfl⟩, _, _, tkR, rfl, rfl, by rw [hw]; show IntsAre _ (tabAt _ _); rw [tab1 (by omega)]; exact hset, by omega⟩
          rcases List.mem_cons.mp hp with rfl | hp
          · exact .tail _ (.tail _ (.tail _ (.head _)))
          rcases List.mem_cons.mp hp with rfl | hp
          · exact .head _
          · exact .tail _ (.tail _ (.tail _ (.tail _ (.tail _ hp))))
        · rename Fr _ _ _ _ => F; rename News _ _ _ _ => N
          rename (IntsAre (List.set _ _ _) _) => hset
          refine EndS.next [(_, W.listOf (List.toArray _) 0), (hh.objs.size + 1, instObj 83 hh.objs.size), (hh.objs.size, dictOf [⟨PyData.keyHash w.params (Str.ofString "raw"), .str (Str.ofString "raw") tkR, .str x t⟩] 1)] F N (apart3 hIr.symm (by omega) (by omega))
            ⟨by omega, rfl, rfl, rfl, ⟨_, by rw [hw]; rfl⟩, ⟨_, by rw [hw]; rfl⟩, ⟨_, by rw [hw]; rfl⟩, _, _, tkR, rfl, rfl, by rw [hw]; show IntsAre _ (tabAt _ _); rw [tab2 (by omega) (by omega)]; exact hset, hrc⟩
    · rename_i hge
      have e0 : i - body.length = 0 := by omega
      rw [e0] at hi'
      obtain rfl := (Option.some.inj hi').symm
      have ei : i = body.length := by omega
      subst ei
      rw [List.take_length] at F4 hcv hbd htl hcl
      k_steps
      show wpAny _ _ _ _ _ _
      k_steps
      rename Fr _ _ _ _ => F; rename News _ _ _ _ => N
      have hDne := tup_ne_dict (N _ (.tail _ (.head _))).1 (N _ (.tail _ (.tail _ (.tail _ (.tail _ (.tail _ (.head _))))))).1
      k_steps
      rename Fr _ _ _ _ => F; rename News _ _ _ _ => N
      have g1 := N _ (.head _)
      have g2 := N _ (.tail _ (.head _))
      have g3 := N _ (.tail _ (.tail _ (.tail _ (.tail _ (.head _)))))
      have g4 := N _ (.tail _ (.tail _ (.tail _ (.tail _ (.tail _ (.head _))))))
      exact ⟨rfl, hQ _ _ _ F.keep ⟨_, rfl, _, _, _, cv, _, _, _, _, _, _, _, _, _, _, _, ⟨g3.1, g3.2.2⟩, ⟨g4.1, g4.2.2⟩, ⟨g1.1, g1.2.2⟩, ⟨g2.1, g2.2.2⟩, hcv⟩⟩
  case done =>
    rintro h3 tk3 m₁ news₁ F3 N3 ⟨hib, _⟩
    exfalso
    rw [hx] at hib
    simp at hib
    omega
end Mine
end
section
open PySem PySem.W PyProof.Rows PySem.Calls PySem.Spec PyProof.V
set_option maxRecDepth 100000
set_option maxHeartbeats 8000000
namespace Mine
local macro_rules | `(tactic| walk_at "eval ListComp") => `(tactic| refine stop_here ?_)
local macro_rules | `(tactic| walk_at "CompSrc") => `(tactic| refine stop_here ?_)
local macro_rules | `(tactic| walk_at "binaryOp Mult str int") => `(tactic| refine stop_here ?_)
local macro_rules | `(tactic| walk_at "call builtin:str.join") => `(tactic| refine stop_here ?_)
local macro_rules | `(tactic| walk_at "call ref") => `(tactic| refine stop_here ?_)
def leadBody (r0 r1 r2 : Int) : List Nat := List.replicate r0.toNat 32 ++ 9 :: (List.replicate r1.toNat 32 ++ 9 :: List.replicate r2.toNat 32)
theorem r4 {r : Int} (h : 0 ≤ r) (h' : r ≤ 3) : r = 0 ∨ r = 1 ∨ r = 2 ∨ r = 3 := by omega
theorem lead_eq {r0 r1 r2 : Int} (h0 : 0 ≤ r0) (h0' : r0 ≤ 3) (h1 : 0 ≤ r1) (h1' : r1 ≤ 3) (h2 : 0 ≤ r2) (h2' : r2 ≤ 3) :
    Txt.join (Str.ofString "\t") [Txt.mul (Str.ofString " ") ([r0, r1, r2].getD 0 0), Txt.mul (Str.ofString " ") ([r0, r1, r2].getD 1 0), Txt.mul (Str.ofString " ") ([r0, r1, r2].getD 2 0)] = ⟨(leadBody r0 r1 r2).toArray⟩ := by
  rcases r4 h0 h0' with rfl | rfl | rfl | rfl <;> rcases r4 h1 h1' with rfl | rfl | rfl | rfl <;> rcases r4 h2 h2' with rfl | rfl | rfl | rfl <;> decide
theorem lead_len {r0 r1 r2 : Int} (h0 : 0 ≤ r0) (h0' : r0 ≤ 3) (h1 : 0 ≤ r1) (h1' : r1 ≤ 3) (h2 : 0 ≤ r2) (h2' : r2 ≤ 3) :
    ([Txt.mul (Str.ofString " ") ([r0, r1, r2].getD 0 0), Txt.mul (Str.ofString " ") ([r0, r1, r2].getD 1 0), Txt.mul (Str.ofString " ") ([r0, r1, r2].getD 2 0)].map (·.length)).sum + 3 ≤ 1048576 := by
  rcases r4 h0 h0' with rfl | rfl | rfl | rfl <;> rcases r4 h1 h1' with rfl | rfl | rfl | rfl <;> rcases r4 h2 h2' with rfl | rfl | rfl | rfl <;> decide
theorem lead_spec {w : World} {mg mb : Str → Option Value} {s : Shared} (O : Ok w mg mb s.heap) {l : Addr} {r0 r1 r2 : Int} (h₂ : IL s.heap l [r0, r1, r2]) (h0 : 0 ≤ r0) (h0' : r0 ≤ 3) (h1 : 0 ≤ r1) (h1' : r1 ≤ 3) (h2 : 0 ≤ r2) (h2' : r2 ≤ 3) :
    Spec w 148 [.ref l] s 5 50 (fun v h => ∃ a, v = .ref a ∧ WsX w s.heap h a (wrun (leadBody r0 r1 r2))) := by
  unfold Spec
  intro dp un fr gs Q hR hQ
  have hO : ∀ {h : Heap}, Keeps s.heap h → Ok w mg mb h := fun k => O.keeps k
  obtain ⟨vs, hvs, hav⟩ := h₂
  obtain ⟨X, T⟩ := O
  revert X; k_fill; intro X
  refine wpAny_call ?_
  k_dflt (refine' enterX X T [(Str.ofString "runs", .ref l)] ?k6 ?k7 ?k8 ?k9 ?kB ?kN ?_ ?c2 ?c3 ?c4 ?c5; (case k6 => k_is); (case k7 => k_is); (case k8 => (have := hR.d; dsimp only at this ⊢; omega)); (case k9 => exact rfl); (case c5 => decide); (case kB => exact locs rfl); (case kN => (dsimp only [List.map]; decide)); (case c2 => exact rfl); (case c3 => exact rfl); (case c4 => exact rfl); k_whole; intro h' F' N'; (try dsimp only))
  k_fold
  have hRd := fun env => Room.deeper (env := env) hR
  k_steps
  rename Fr _ _ _ _ => F; rename News _ _ _ _ => N
  refine go_on ?_
  refine LCg.ListComp_U (F₀ := F) (by with_unfolding_all rfl) (by decide) (by rfl) (by decide) (by rfl) ?_
  k_steps
  rename Fr _ _ _ _ => F; rename News _ _ _ _ => N
  dsimp only
  refine go_on ?_
  refine LCg.CompSrc.base (by rfl) F N hvs (by rw [List.size_toArray, IntsAre.length hav]; show 3 ≤ sizeLine; decide) ?_
  intro g
  dsimp only
  refine comp_pure (fun j y => ∃ t, y = .str (Txt.mul (Str.ofString " ") ([r0, r1, r2].getD j 0)) t) (.inl hvs) ?_ ?_
  · rintro j v ys I2 oI2 C oC D m2 h8 tk8 E8 hj hv hC hx8 F8 N8 off ne8
    clear F N
    obtain ⟨r, tr, rfl, hr⟩ := IntsAre.at hav _ _ (by simpa using hv)
    dsimp only
    have hrb : 0 ≤ r ∧ r ≤ 3 := by
      match j, hj, hr with
      | 0, _, hr => cases hr; exact ⟨h0, h0'⟩
      | 1, _, hr => cases hr; exact ⟨h1, h1'⟩
      | 2, _, hr => cases hr; exact ⟨h2, h2'⟩
    have hrd : [r0, r1, r2].getD j 0 = r := by rw [List.getD_eq_getElem?_getD, hr]; rfl
    k_steps
    refine go_on ?_
    refine KXi.mul (n := 1) (by decide) (by decide) (by omega) (by omega) ?_
    intro t9 k9 _ _
    exact EltEnd.mk F8 N8 ⟨t9, by rw [hrd]⟩
  · intro zs hz hzs D h5 tk5 F5 N5 off5
    clear F N
    dsimp only
    have hzl : zs.length = 3 := by rw [hz, List.size_toArray, IntsAre.length hav]; rfl
    k_steps
    rename Fr _ _ _ _ => F; rename News _ _ _ _ => N
    obtain ⟨z0, z1, z2, rfl⟩ := three_of hzl
    obtain ⟨u0, rfl⟩ := hzs 0 _ rfl
    obtain ⟨u1, rfl⟩ := hzs 1 _ rfl
    obtain ⟨u2, rfl⟩ := hzs 2 _ rfl
    refine go_on ?_
    refine join_listW ⟨_, (N _ (.head _)).1, rfl, _, rfl⟩ (.cons _ _ (.cons _ _ (.cons _ _ .nil))) (by decide) ?_ ?_
    · have := lead_len h0 h0' h1 h1' h2 h2'
      exact this
    intro t9 k9
    dsimp only
    k_steps
    rw [show Txt.join (Str.ofString "\t") [Txt.mul (Str.ofString " ") ([r0, r1, r2].getD 0 0), Txt.mul (Str.ofString " ") ([r0, r1, r2].getD 1 0), Txt.mul (Str.ofString " ") ([r0, r1, r2].getD 2 0)] = ⟨(leadBody r0 r1 r2).toArray⟩ from lead_eq h0 h0' h1 h1' h2 h2']
    refine SB.add ?_ ?_
    · intro t10 k10
      dsimp only
      k_steps
      refine go_on ?_
      rename Fr _ _ _ _ => F; rename News _ _ _ _ => N
      have hkF := F.keep
      refine use (ws_spec (hO (by exact F.keep)) (body := leadBody r0 r1 r2) ?_ ?_ ?_ _) F N ((hRd _).le (by decide) (by decide)) ?_
      · show ((leadBody r0 r1 r2).toArray ++ #[120]) = _
        simp
      · intro c hc
        unfold leadBody at hc
        simp only [List.mem_append, List.mem_cons, List.mem_replicate] at hc
        rcases hc with ⟨_, h⟩ | h | ⟨_, h⟩ | h | ⟨_, h⟩ <;> simp [h]
      · unfold leadBody
        simp only [List.length_append, List.length_cons, List.length_replicate]
        omega
      rintro _ h11 tk11 k11 F11 N11 ⟨a, rfl, hws⟩
      clear F N
      dsimp only
      k_steps
      rename Fr _ _ _ _ => F; rename News _ _ _ _ => N
      have hfr : ∀ (hh : Heap) (b : Addr), (∀ b o, s.heap.get? b = some o → hh.get? b = some o) → hh.get? b = none → s.heap.get? b = none := fun hh b hk hb => by
        cases q : s.heap.get? b with
        | none => rfl
        | some o =>
          have e := hk _ _ q
          rw [hb] at e; cases e
      exact hQ _ _ _ F.keep ⟨a, rfl, hws.before fun b hb => hfr _ b hkF hb⟩
    · show (leadBody r0 r1 r2).toArray.size + 1 ≤ sizeLine
      rw [List.size_toArray]
      unfold leadBody
      simp only [List.length_append, List.length_cons, List.length_replicate]
      have : (1000 : Nat) ≤ sizeLine := by decide
      omega
end Mine
end
section
open PySem PySem.W PyProof.Rows PySem.Calls PySem.Spec PyProof.V PySem.SeqAt
set_option maxRecDepth 100000
set_option maxHeartbeats 8000000
namespace Mine
local macro_rules | `(tactic| walk_at "exec For Name Call") => `(tactic| refine stop_here ?_)
local macro_rules | `(tactic| walk_at "exec For Name Call cons nil") => `(tactic| refine stop_here ?_)
local macro_rules | `(tactic| walk_at "call builtin:len") => `(tactic| refine stop_here ?_)
local macro_rules | `(tactic| walk_at "compareOp Eq ref ref") => `(tactic| refine stop_here ?_)
local macro_rules | `(tactic| walk_at "binaryOp Mult int int") => `(tactic| refine stop_here ?_)
theorem instB {h₀ h : Heap} {L a dx : Addr} {m : Str → Option Value} {od : Obj} (F : Fr h₀ L h m) (h1 : h₀.get? a = some (instObj 83 dx)) (h2 : h₀.get? dx = some od) : InstAt h a (instObj 83 dx) 83 (some od) :=
  ⟨F.keep _ _ h1, rfl, rfl, F.keep _ _ h2⟩
local macro_rules | `(tactic| k_inst) => `(tactic| exact instB (by assumption) (by assumption) (by assumption))
def longest (q : Wst) : Int := max ((q.cs.length : Int) - 1) q.b
def ilOf (cs : List Int) (ts : Int) (n : Nat) : Int := (List.range n).foldl (fun (il : Int) (i : Nat) => il + (ts + i) / ts * cs.getD (ts + i).toNat 0) 0
def indent (q : Wst) (ts : Int) : Int := q.b + ts * (ilOf q.cs ts ((q.cs.length : Int) - ts).toNat + q.nt)
def wd (q : Wst) : PyData := .tuple [.tuple (q.cs.map .int), .int q.b]
theorem readsInts (h : Heap) : ∀ {vs : List Value} {ns : List Int}, IntsAre vs ns → ReadsAll h vs (ns.map .int) []
  | _, _, .nil => .nil
  | _, _, .cons n t r => .cons (.int n t) (readsInts h r)
theorem wd_reads {h : Heap} {T C : Addr} {cv : List Value} {q : Wst} {ub : Tok} (h3 : IsTup h T #[.ref C, .int q.b ub]) (h4 : IsTup h C cv.toArray) (h5 : IntsAre cv q.cs) : Reads h (.ref T) (wd q) [] := by
  obtain ⟨o, e1, e2, n, e3⟩ := h3
  obtain ⟨o', f1, f2, n', f3⟩ := h4
  exact .tuple e1 e2 e3 (.cons (as := []) (.tuple f1 f2 f3 (by simpa using readsInts h h5)) (.cons (as := []) (.int _ _) .nil))
theorem small20 {a : Int} (h0 : -1000000 ≤ a) (h1 : a ≤ 1000000) : Bd 20 a := by
  unfold Bd
  have : (2 : Nat) ^ 20 = 1048576 := by decide
  omega
theorem mulSmall {prog : Program} {w : World} {A : Around} {E : Value → Shared → Prop} {s : Shared} {a b : Int} {t u : Tok} {Q : Value → Shared → Prop} (h0 : -1000000 ≤ a) (h1 : a ≤ 1000000) (h : ∀ t', Q (.int (a * b) t') { s with toks := s.toks + 1 }) :
    Stopped (wpAny (model prog w) A (binaryOp .Mult (.int a t) (.int b u)) Q E s) :=
  mul_int (h _) (IntMulOk.of_left (Nat.le_trans (Bd.bits (x := a) (n := 20) (small20 h0 h1)) (by decide)))
theorem ilOf_succ (cs : List Int) (ts : Int) (n : Nat) : ilOf cs ts (n + 1) = ilOf cs ts n + (ts + n) / ts * cs.getD (ts + n).toNat 0 := by
  unfold ilOf
  rw [List.range_succ, List.foldl_append]; rfl
theorem lenT {prog : Program} {w : World} {A : Around} {E : Value → Shared → Prop} {s : Shared} {C : Addr} {cv : List Value} {ns : List Int} {Q : Value → Shared → Prop} (ht : IsTup s.heap C cv.toArray) (hi : IntsAre cv ns) (hl : ns.length ≤ 1000)
    (h : Q (.int (ns.length : Int) (s.toks + 1)) { s with toks := s.toks + 1 + 1 }) : Stopped (wpAny (model prog w) A (call (.builtin "len") [.ref C]) Q E s) := by
  have hcl := IntsAre.length hi
  refine len_tuple ht (by rw [List.size_toArray, hcl]; omega) ?_
  rw [List.size_toArray, hcl]; exact h
theorem longest_spec {w : World} {mg mb : Str → Option Value} {s : Shared} (O : Ok w mg mb s.heap) {a : Addr} {q : Wst} (h₂ : IsWs w s.heap a q) (hl : q.cs.length ≤ 20) :
    Spec w 45 [.ref a] s 1 8 (fun v h => ∃ u, v = .int (longest q) u) := by
  unfold Spec
  intro dp un fr gs Q hR hQ
  have hO : ∀ {h : Heap}, Keeps s.heap h → Ok w mg mb h := fun k => O.keeps k
  obtain ⟨dx, T', C, cv, x, t, k1, k2, k3, k4, k5, un', unt, ub, sm, hg1, hg2, hg3, hg4, hg5⟩ := h₂
  have hcl := IntsAre.length hg5
  obtain ⟨X, T⟩ := O
  revert X; k_fill; intro X
  refine wpAny_call ?_
  k_dflt (refine' enterX X T [(Str.ofString "self", .ref a)] ?k6 ?k7 ?k8 ?k9 ?kB ?kN ?_ ?c2 ?c3 ?c4 ?c5; (case k6 => k_is); (case k7 => k_is); (case k8 => (have := hR.d; dsimp only at this ⊢; omega)); (case k9 => exact rfl); (case c5 => decide); (case kB => exact locs rfl); (case kN => (dsimp only [List.map]; decide)); (case c2 => exact rfl); (case c3 => exact rfl); (case c4 => exact rfl); k_whole; intro h' F' N'; (try dsimp only))
  k_fold
  have hRd := fun env => Room.deeper (env := env) hR
  k_steps
  rename Fr _ _ _ _ => F; rename News _ _ _ _ => N
  refine lenT (IsTup.keeps hg4 F.keep) hg5 (by omega) ?_
  dsimp only
  k_steps
  all_goals rename Fr _ _ _ _ => F
  all_goals exact hQ _ _ _ F.keep ⟨_, by unfold longest; congr 1; omega⟩
theorem indent_spec {w : World} {mg mb : Str → Option Value} {s : Shared} (O : Ok w mg mb s.heap) {a : Addr} {q : Wst} (h₂ : IsWs w s.heap a q) (hl : q.cs.length ≤ 20) {ts : Int} {tt : Tok} (ht : 1 ≤ ts) (ht' : ts ≤ 3) (hcs : ∀ c ∈ q.cs, 0 ≤ c ∧ c ≤ 100) (hnt : 0 ≤ q.nt ∧ q.nt ≤ 100) :
    Spec w 52 [.ref a, .int ts tt] s 1 8 (fun v h => ∃ u, v = .int (indent q ts) u) := by
  unfold Spec
  intro dp un fr gs Q hR hQ
  have hO : ∀ {h : Heap}, Keeps s.heap h → Ok w mg mb h := fun k => O.keeps k
  obtain ⟨dx, T', C, cv, x, t, k1, k2, k3, k4, k5, un', unt, ub, sm, hg1, hg2, hg3, hg4, hg5⟩ := h₂
  have hcl := IntsAre.length hg5
  obtain ⟨X, T⟩ := O
  revert X; k_fill; intro X
  refine wpAny_call ?_
  k_dflt (refine' enterX X T [(Str.ofString "self", .ref a), (Str.ofString "tabsize", .int ts tt)] ?k6 ?k7 ?k8 ?k9 ?kB ?kN ?_ ?c2 ?c3 ?c4 ?c5; (case k6 => k_is); (case k7 => k_is); (case k8 => (have := hR.d; dsimp only at this ⊢; omega)); (case k9 => exact rfl); (case c5 => decide); (case kB => exact locs rfl); (case kN => (dsimp only [List.map]; decide)); (case c2 => exact rfl); (case c3 => exact rfl); (case c4 => exact rfl); k_whole; intro h' F' N'; (try dsimp only))
  k_fold
  have hRd := fun env => Room.deeper (env := env) hR
  k_steps
  rename Fr _ _ _ _ => F; rename News _ _ _ _ => N
  refine go_on ?_
  refine forT F ?_
  k_steps
  rename Fr _ _ _ _ => F; rename News _ _ _ _ => N
  refine lenT (IsTup.keeps hg4 F.keep) hg5 (by omega) ?_
  dsimp only
  k_steps
  rename (IsRange _ _ _ _ _ _ _ _) => hr1
  rename Fr _ _ _ _ => F; rename News _ _ _ _ => N
  (try dsimp only)
  refine rangeAt (n := ((q.cs.length : Int) - ts).toNat) (hRd _).h F N hr1 (range_small (by omega) (by omega) (by omega) (by omega) (by omega)) (by unfold Builtin.Range.rangeSize; split <;> (try split) <;> omega)
    (fun i m news => m (Str.ofString "self") = some (.ref a) ∧ m (Str.ofString "tabsize") = some (.int ts tt) ∧ m (Str.ofString "count") = some (.ref C) ∧ m (Str.ofString "trailing") = some (.int q.b ub) ∧ (∃ u, m (Str.ofString "il") = some (.int (ilOf q.cs ts i) u)) ∧ 0 ≤ ilOf q.cs ts i ∧ ilOf q.cs ts i ≤ 10000 * i ∧ news = [])
    ⟨rfl, rfl, rfl, rfl, ⟨_, rfl⟩, Int.le_refl _, Int.le_refl _, rfl⟩ ?step ?done
  case step =>
    rintro i ti h3 hi m₁ news₁ tk3 own ⟨hm1, hm2, hm3, hm4, ⟨u0, hm5⟩, hil, hil2, rfl⟩ hap hown F3 N3
    clear F N
    have htc : IsTup h3 C cv.toArray := IsTup.keeps hg4 F3.keep
    have F4 := Fr.ov (l := [(Str.ofString "self", _), (Str.ofString "tabsize", _), (Str.ofString "count", _), (Str.ofString "trailing", _), (Str.ofString "il", _)]) F3 (by intro p hp; simp only [List.mem_cons, List.not_mem_nil, or_false] at hp; rcases hp with rfl | rfl | rfl | rfl | rfl <;> assumption); clear F3
    rw [show ts + (i : Int) * 1 = ts + i by omega]
    have hlt : (ts + (i : Int)).toNat < q.cs.length := by omega
    have hcb := hcs _ (List.getElem_mem hlt)
    have hcd : q.cs.getD (ts + (i : Int)).toNat 0 = q.cs[(ts + (i : Int)).toNat] := by rw [List.getD_eq_getElem?_getD, List.getElem?_eq_getElem hlt]; rfl
    rw [← hcd] at hcb
    have hdiv : (ts + (i : Int)).fdiv ts = (ts + i) / ts := Int.fdiv_eq_ediv_of_nonneg _ (by omega)
    have hd0 : 0 ≤ (ts + (i : Int)) / ts := Int.ediv_nonneg (by omega) (by omega)
    have hd1 : (ts + (i : Int)) / ts ≤ ts + i := Int.ediv_le_self _ (by omega)
    have hm0 : 0 ≤ (ts + (i : Int)) / ts * q.cs.getD (ts + (i : Int)).toNat 0 := Int.mul_nonneg hd0 hcb.1
    have hm1 : (ts + (i : Int)) / ts * q.cs.getD (ts + (i : Int)).toNat 0 ≤ 100 * 100 := Int.mul_le_mul (by omega) hcb.2 hcb.1 (by decide)
    k_steps
    rw [hdiv]
    refine mulSmall (by omega) (by omega) ?_
    intro t7
    dsimp only
    k_steps
    rename Fr _ _ _ _ => F; rename News _ _ _ _ => N
    exact EndS.next [] F N (fun _ _ _ hp => nomatch hp) ⟨rfl, rfl, rfl, rfl, ⟨_, by rw [ilOf_succ]; rfl⟩, by rw [ilOf_succ]; omega, by rw [ilOf_succ]; omega, rfl⟩
  case done =>
    rintro h3 tk3 m₁ news₁ F3 N3 ⟨hm1, hm2, hm3, hm4, ⟨u0, hm5⟩, hil, hil2, rfl⟩
    clear F N
    have F4 := Fr.ov (l := [(Str.ofString "self", _), (Str.ofString "tabsize", _), (Str.ofString "count", _), (Str.ofString "trailing", _), (Str.ofString "il", _)]) F3 (by intro p hp; simp only [List.mem_cons, List.not_mem_nil, or_false] at hp; rcases hp with rfl | rfl | rfl | rfl | rfl <;> assumption); clear F3
    k_steps
    refine mulSmall (by omega) (by omega) ?_
    intro t7
    dsimp only
    k_steps
    rename Fr _ _ _ _ => F; rename News _ _ _ _ => N
    exact hQ _ _ _ F.keep ⟨_, rfl⟩
theorem equal_spec {w : World} {mg mb : Str → Option Value} {s : Shared} (O : Ok w mg mb s.heap) {a a' : Addr} {q q' : Wst} (h₂ : IsWs w s.heap a q) (h₂' : IsWs w s.heap a' q') (hs1 : shaped (wd q) = true) (hs2 : shaped (wd q') = true) :
    Spec w 59 [.ref a, .ref a'] s 1 70 (fun v h => v = .bool (PyData.eqv (wd q) (wd q'))) := by
  unfold Spec
  intro dp un fr gs Q hR hQ
  have hO : ∀ {h : Heap}, Keeps s.heap h → Ok w mg mb h := fun k => O.keeps k
  obtain ⟨dx, T', C, cv, x, t, k1, k2, k3, k4, k5, un', unt, ub, sm, hg1, hg2, hg3, hg4, hg5⟩ := h₂
  obtain ⟨dx', T2', C', cv', x', t', k1', k2', k3', k4', k5', un2', unt', ub', sm', hg1', hg2', hg3', hg4', hg5'⟩ := h₂'
  have hcl := IntsAre.length hg5
  have hcl' := IntsAre.length hg5'
  obtain ⟨X, T⟩ := O
  revert X; k_fill; intro X
  refine wpAny_call ?_
  k_dflt (refine' enterX X T [(Str.ofString "self", .ref a), (Str.ofString "other", .ref a')] ?k6 ?k7 ?k8 ?k9 ?kB ?kN ?_ ?c2 ?c3 ?c4 ?c5; (case k6 => k_is); (case k7 => k_is); (case k8 => (have := hR.d; dsimp only at this ⊢; omega)); (case k9 => exact rfl); (case c5 => decide); (case kB => exact locs rfl); (case kN => (dsimp only [List.map]; decide)); (case c2 => exact rfl); (case c3 => exact rfl); (case c4 => exact rfl); k_whole; intro h' F' N'; (try dsimp only))
  k_fold
  have hRd := fun env => Room.deeper (env := env) hR
  k_steps
  rename Fr _ _ _ _ => F; rename News _ _ _ _ => N
  refine go_on ?_
  refine eq_dataH (Reads.keeps F.keep (wd_reads hg3 hg4 hg5)) (Reads.keeps F.keep (wd_reads hg3' hg4' hg5')) hs1 hs2 (by have h1 : un + 70 < cLine := hR.u; show un + 3 + 64 < cLine; omega) ?_
  k_steps
  exact hQ _ _ _ F.keep rfl
end Mine
end
section
open PySem PySem.W PyProof.Rows PySem.Calls PySem.Spec PyProof.V
set_option maxRecDepth 100000
set_option maxHeartbeats 8000000
namespace Mine
local macro_rules | `(tactic| walk_at "exec For Name Call") => `(tactic| refine stop_here ?_)
local macro_rules | `(tactic| walk_at "exec For Name Call cons nil") => `(tactic| refine stop_here ?_)
local macro_rules | `(tactic| walk_at "eval ListComp") => `(tactic| refine stop_here ?_)
local macro_rules | `(tactic| walk_at "call ref") => `(tactic| refine stop_here ?_)
local macro_rules | `(tactic| walk_at "binaryOp Mult int int") => `(tactic| refine stop_here ?_)
local macro_rules | `(tactic| k_inst) => `(tactic| exact instB (by assumption) (by assumption) (by assumption))
structure Small (q : Wst) : Prop where
  l : q.cs.length ≤ 20
  c : ∀ c ∈ q.cs, 0 ≤ c ∧ c ≤ 100
  n : 0 ≤ q.nt ∧ q.nt ≤ 100
  m : 0 ≤ longest q ∧ longest q ≤ 3
def nOf (size : Int) : Nat := if size = 1 then 2 else 0
def colItems (cols : List Int) (size : Int) : List Int := (List.range (nOf size)).map fun (i : Nat) => cols.getD (2 * size - 1 + i * size).toNat 0
def colStep (q : Wst) (cols : List Int) (size : Int) : List Int := cols.set (size - 1).toNat ((indent q size).fdiv size - q.nt - (colItems cols size).sum)
def colFold (q : Wst) (j : Nat) : List Int := (List.range j).foldl (fun cols (j : Nat) => colStep q cols (longest q - j)) [0, 0, 0]
def colsOf (q : Wst) : List Int := colFold q (longest q).toNat
theorem colFold_succ (q : Wst) (j : Nat) : colFold q (j + 1) = colStep q (colFold q j) (longest q - j) := by
  unfold colFold
  rw [List.range_succ, List.foldl_append]; rfl
theorem colFold_length (q : Wst) : ∀ j, (colFold q j).length = 3
  | 0 => rfl
  | j + 1 => by rw [colFold_succ]; unfold colStep; rw [List.length_set, colFold_length q j]
theorem columns_spec {w : World} {mg mb : Str → Option Value} {s : Shared} (O : Ok w mg mb s.heap) {a : Addr} {q : Wst} (h₂ : IsWs w s.heap a q) (hq : Small q) :
    Spec w 153 [.ref a] s 5 50 (fun v h => ∃ r, v = .ref r ∧ s.heap.get? r = none ∧ IL h r (colsOf q)) := by
  unfold Spec
  intro dp un fr gs Q hR hQ
  have hO : ∀ {h : Heap}, Keeps s.heap h → Ok w mg mb h := fun k => O.keeps k
  have hws : Unit → IsWs w s.heap a q := fun _ => h₂
  obtain ⟨dx, T', C, cv0, x, t, k1, k2, k3, k4, k5, un', unt, ub, sm, hg1, hg2, hg3, hg4, hg5⟩ := h₂
  obtain ⟨X, T⟩ := O
  revert X; k_fill; intro X
  refine wpAny_call ?_
  k_dflt (refine' enterXC X T [(Str.ofString "shape", .ref a)] ?k6 ?k7 ?k8 ?k9 ?kB ?kN ?_ ?c2 ?c3 ?c4; (case k6 => k_is); (case k7 => k_is); (case k8 => (have := hR.d; dsimp only at this ⊢; omega)); (case k9 => exact rfl); (case kB => (intro n x hx; simp only [List.mem_cons, List.not_mem_nil, or_false] at hx; rcases hx with rfl <;> first | exact .inl rfl | exact .inr ⟨rfl, rfl⟩)); (case kN => decide); (case c2 => exact rfl); (case c3 => exact rfl); (case c4 => exact rfl); k_whole; intro h' tk' cells' F' N' Y'; k_cells Y'; (try dsimp only))
  (with_reducible show wpAny _ _ _ _ _ _)
  k_fold
  have hRd := fun env => Room.deeper (env := env) hR
  k_steps
  rename Fr _ _ _ _ => F; rename News _ _ _ _ => N
  refine go_on ?_
  refine forT F ?_
  k_steps
  rename Fr _ _ _ _ => F; rename News _ _ _ _ => N; refine go_on ?_; refine use (longest_spec (hO (by exact F.keep)) ((hws ()).keeps (by exact F.keep)) hq.l) F N ((hRd _).le (by decide) (by decide)) ?_
  rintro _ h5 tk5 k5 F5 N5 ⟨u5, rfl⟩
  clear F N
  k_steps
  rename (IsRange _ _ _ _ _ _ _ _) => hr1
  rename Fr _ _ _ _ => F1; rename News _ _ _ _ => N1
  (try dsimp only)
  have hm0 := hq.m.1
  have hm1 := hq.m.2
  rename_i rc _ hrc0 _ oc hoc _ _ _ _ _ _ _ _
  refine rangeAt1 (n := (longest q).toNat) (hRd _).h F1 N1 hr1 (range_small (by omega) (by omega) (by omega) (by omega) (by omega)) (by rcases (by omega : longest q = 0 ∨ longest q = 1 ∨ longest q = 2 ∨ longest q = 3) with h | h | h | h <;> rw [h] <;> rfl)
    (fun j m news => m (Str.ofString "shape") = some (.ref a) ∧ ∃ cv, news = [(rc, W.listOf cv.toArray 0), (s.heap.objs.size + 1, oc)] ∧ IntsAre cv (colFold q j))
    ⟨rfl, _, rfl, .cons _ _ (.cons _ _ (.cons _ _ .nil))⟩ ?step ?done
  case step =>
    rintro I hI j tj h3 hj m₁ news₁ tk3 oI ⟨hm2, cv, rfl, hcv⟩ hap F3 N3
    clear F1 N1 hr1
    have hIr := ltN (hI _ (.head _))
    have hIc := ltN (hI _ (.tail _ (.head _)))
    obtain ⟨sz, hsz⟩ : ∃ sz, sz = longest q + (j : Int) * -1 := ⟨_, rfl⟩
    rw [← hsz]
    have hsz2 : longest q - (j : Int) = sz := by omega
    have hs1 : 1 ≤ sz := by omega
    have hs3 : sz ≤ 3 := by omega
    have hcl := colFold_length q j
    have hsucc := colFold_succ q j
    rw [hsz2] at hsucc
    generalize colFold q j = cols at hcv hcl hsucc
    have F4 := Fr.ov (l := [(Str.ofString "shape", _)]) F3 (by intro p hp; simp only [List.mem_cons, List.not_mem_nil, or_false] at hp; rcases hp with rfl <;> assumption); clear F3
    k_steps
    rename Fr _ _ _ _ => F; rename News _ _ _ _ => N; refine go_on ?_; refine use (indent_spec (hO (by exact F.keep)) ((hws ()).keeps (by exact F.keep)) hq.l hs1 hs3 hq.c hq.n) F N ((hRd _).le (by decide) (by decide)) ?_
    rintro _ h5 tk5 k5 F5 N5 ⟨u5, rfl⟩
    clear F N
    k_steps
    rename Fr _ _ _ _ => F; rename News _ _ _ _ => N
    dsimp only
    refine go_on ?_
    refine ListComp_R F (by with_unfolding_all rfl) (by decide) (by rfl) (by decide) (by rfl) ?_
    k_steps
    refine mulSmall (by omega) (by omega) ?_
    intro t7
    dsimp only
    k_steps
    rename Fr _ _ _ _ => F; rename News _ _ _ _ => N
    rename (IsRange _ _ _ _ _ _ _ _) => hr2
    have hz3 : sz = 1 ∨ sz = 2 ∨ sz = 3 := by omega
    refine SrcRg.mk (by rfl) F N hr2 (range_small (by omega) (by omega) (by omega) (by omega) (by omega)) (n := nOf sz) (by rcases hz3 with h | h | h <;> rw [h] <;> rfl) (by rcases hz3 with h | h | h <;> rw [h] <;> decide) ?_
    intro g
    dsimp only
    refine comp_pure (fun j y => ∃ t, y = .int ((colItems cols sz).getD j 0) t) trivial ?_ ?_
    · rintro j2 v ys I2 oI2 C2 oC D m2 h8 tk8 E8 hj2 ⟨t8, rfl⟩ hC hx8 F8 N8 off ne8
      clear F N
      dsimp only
      have hidx : 0 ≤ 2 * sz - 1 + (j2 : Int) * sz ∧ 2 * sz - 1 + (j2 : Int) * sz < 3 ∧ (colItems cols sz).getD j2 0 = cols.getD (2 * sz - 1 + (j2 : Int) * sz).toNat 0 := by
        have h1 : sz = 1 := by
          rcases hz3 with h | h | h
          · exact h
          · rw [h] at hj2; exact absurd hj2 (Nat.not_lt_zero _)
          · rw [h] at hj2; exact absurd hj2 (Nat.not_lt_zero _)
        subst h1
        have hj3 : j2 < 2 := hj2
        refine ⟨by omega, by omega, ?_⟩
        unfold colItems
        match j2, hj3 with
        | 0, _ => rfl
        | 1, _ => rfl
      obtain ⟨hi0, hi1, hi2⟩ := hidx
      k_steps
      exact EltEnd.mk (by assumption) (by assumption) ⟨_, by rw [hi2]⟩
    · intro zs hz hzs D h6 tk6 F6 N6 off6
      clear F N
      have hzi : IntsAre zs (colItems cols sz) := ints_of (by rw [hz]; unfold colItems; rw [List.length_map, List.length_range]) hzs
      obtain ⟨oD1, oD2, oD3, oD4⟩ := off6
      dsimp only
      k_steps
      rename Fr _ _ _ _ => F; rename News _ _ _ _ => N
      rename (IntsAre (List.set _ _ _) _) => hset
      refine EndS.next [(rc, W.listOf (List.toArray _) 0), (s.heap.objs.size + 1, oc)] F (fun p hp => N p ?_) ?_ ⟨rfl, _, rfl, by rw [hsucc]; exact hset⟩
      · exact .tail _ hp
      · intro q' hq' p hp
        rw [List.mem_singleton.mp hq']
        simp only [List.mem_cons, List.not_mem_nil, or_false] at hp
        rcases hp with rfl | rfl
        · exact Nat.ne_of_gt hIr
        · exact Nat.ne_of_gt hIc
  case done =>
    rintro h3 tk3 m₁ news₁ F3 N3 ⟨hm2, cv, rfl, hcv⟩
    clear F1 N1 hr1
    have F4 := Fr.ov (l := [(Str.ofString "shape", _)]) F3 (by intro p hp; simp only [List.mem_cons, List.not_mem_nil, or_false] at hp; rcases hp with rfl <;> assumption); clear F3
    k_steps
    rename Fr _ _ _ _ => F; rename News _ _ _ _ => N
    have g := N _ (.head _)
    exact hQ _ _ _ F.keep ⟨rc, rfl, g.2.2, cv, ⟨_, g.1, rfl, _, rfl⟩, hcv⟩
end Mine
end
section
open PySem PySem.W PyProof.Rows PySem.Calls PySem.Spec PyProof.V
set_option maxRecDepth 100000
set_option maxHeartbeats 8000000
namespace Mine
local macro_rules | `(tactic| walk_at "eval Dict") => `(tactic| refine stop_here ?_)
local macro_rules | `(tactic| walk_at "eval Dict cons cons") => `(tactic| refine stop_here ?_)
local macro_rules | `(tactic| walk_at "call ref") => `(tactic| refine stop_here ?_)
local macro_rules | `(tactic| walk_at "call type:bytes") => `(tactic| refine stop_here ?_)
def turnKey (k : Int) : Int := 100 * (k % 10) + 10 * (k / 10 % 10) + k / 100
def turnStep (T : List (Int × Int)) (p : Int × Int) : List (Int × Int) := addc T [(turnKey p.1, p.2)]
def turnedOf (d : List (Int × Int)) : List (Int × Int) := d.foldl turnStep []
theorem ifNo {α : Type} {M : Model} {A : Around} {E : Value → Shared → Prop} {s : Shared} {a b : Sem α} {Q : α → Shared → Prop} (h : wpAny M A b Q E s) : wpAny M A (if false = true then a else b) Q E s := h
local macro_rules | `(tactic| walk_at "binaryOp Mult int int") => `(tactic| refine stop_here ?_)
def by8 (n : Int) : UInt8 := n.toNat.toUInt8
theorem byteArr3 (x y z : Int) : byteArr [x, y, z] = [by8 x, by8 y, by8 z].toArray := rfl
theorem swIn3 (x y z : UInt8) : swIn [x, y, z] 1 0 = [z, y, x] := by simp [swIn, show List.range 3 = [0, 1, 2] from rfl]
theorem by8_val {n : Int} (h : 0 ≤ n) (h2 : n < 256) : ((by8 n).toNat : Int) = n := by
  unfold by8
  simp
  omega
theorem turn_take {d : List (Int × Int)} {i : Nat} {p : Int × Int} (h : d[i]? = some p) : (d.take (i + 1)).foldl turnStep [] = turnStep ((d.take i).foldl turnStep []) p := by
  rw [List.take_add_one, h, List.foldl_append]; rfl
def TurnJ (w : World) (d : List (Int × Int)) (m : Str → Option Value) (news : List (Addr × Obj)) : Prop :=
  ∃ r o kvs, m (Str.ofString "turned") = some (.ref r) ∧ news = [(r, o)] ∧ o.IsDictOf (IK w) kvs ∧ FlatPairs PyData.int kvs (enc d) ∧ (r == sysModules) = false
theorem turned_spec {w : World} {mg mb : Str → Option Value} {s : Shared} (O : Ok w mg mb s.heap) {t : Addr} {d : List (Int × Int)} (h₁ : IsD w s.heap t d) (hd : ∀ p ∈ d, 0 ≤ p.1 ∧ p.1 ≤ 999) (hl : d.length ≤ 100) :
    SpecC w 181 [.ref t] s 3 60 (fun v h => ∃ r, v = .ref r ∧ s.heap.get? r = none ∧ IsD w h r (turnedOf d)) := by
  unfold SpecC
  intro dp un fr gs Q hR hQ
  have hq1 : Unit → IsD w s.heap t d := fun _ => h₁
  have hO : ∀ {h : Heap}, Keeps s.heap h → Ok w mg mb h := fun k => O.keeps k
  obtain ⟨X, T⟩ := O
  revert X; k_fill; intro X
  refine cCall ?_
  k_dflt (refine' cEnterX X T [(Str.ofString "table", .ref t)] ?k6 ?k7 ?k8 ?k9 ?kB ?kN ?_ ?c2 ?c3 ?c4 ?c5; (case k6 => k_is); (case k7 => k_is); (case k8 => (have := hR.d; dsimp only at this ⊢; omega)); (case k9 => exact rfl); (case c5 => decide); (case kB => exact locs rfl); (case kN => (dsimp only [List.map]; decide)); (case c2 => exact rfl); (case c3 => exact rfl); (case c4 => exact rfl); k_whole; intro h' F' N'; (try dsimp only))
  have hRd := fun env => Room.deeper (env := env) hR
  refine cExecs (cAssign (cOf ?_))
  k_steps
  refine cOf ?_
  k_steps
  rename Fr _ _ _ _ => F; rename News _ _ _ _ => N
  rename Obj.IsDictOf (intKind _ _) _ _ => hi0
  rename FlatPairs PyData.int _ _ => hf0
  rename (_ == sysModules) = false => lo0
  obtain ⟨ot, hot⟩ := (hq1 ()).live
  refine cExecs (cFor (cOf ?_))
  k_steps
  refine keysC (D := d) (hRd _).h F N ((hq1 ()).keeps F.keep) (Nat.ne_of_lt (Heap.lt_size hot)) ?dn
    (fun i m news => m (Str.ofString "table") = some (.ref t) ∧ ((d.take i).foldl turnStep []).length ≤ i ∧ TurnJ w ((d.take i).foldl turnStep []) m news)
    ⟨rfl, Nat.le_refl _, _, _, _, rfl, rfl, hi0, hf0, lo0⟩ ?step ?done
  case dn =>
    intro p hp e
    have := (N p hp).2.2
    rw [e, hot] at this; cases this
  case step =>
    rintro i k v u h3 m₁ news₁ tk3 own hi ⟨hm1, hlen, r, o, kvs, hm2, rfl, hio, hfo, lo⟩ hap hown F3 N3
    have hkb := hd _ (List.mem_of_getElem? hi)
    generalize hT0 : (d.take i).foldl turnStep [] = T0 at hlen hfo
    clear F N
    have F4 := Fr.ov (l := [(Str.ofString "table", _), (Str.ofString "turned", _)]) F3 (by intro p hp; simp only [List.mem_cons, List.not_mem_nil, or_false] at hp; rcases hp with rfl | rfl <;> assumption); clear F3
    k_steps
    refine cExecs (cAssign (cCall2 .frame (.inl rfl) rfl (cOf ?_)))
    k_steps
    refine cOf (ifNo ?_)
    k_steps
    rename Fr _ _ _ _ => F; rename News _ _ _ _ => N; refine go_on ?_; refine use (powers_spec (hO (by exact F.keep)) _ _) F N ((hRd _).le (by decide) (by decide)) ?_
    rintro _ h5 tk5 k5 F5 N5 ⟨r6, t1, t2, t3, rfl, hr0, hr⟩
    clear F N
    k_steps
    have hpv : IntsAre [Value.int (k / 100) t1, .int (k / 10 % 10) t2, .int (k % 10) t3] [k / 100, k / 10 % 10, k % 10] := .cons _ _ (.cons _ _ (.cons _ _ .nil))
    refine go_on ?_
    refine call_bytes_ints hr hpv (by intro n hn; simp only [List.mem_cons, List.not_mem_nil, or_false] at hn; rcases hn with rfl | rfl | rfl <;> omega) (by show 3 ≤ sizeLine; decide) (hRd _).h ?_
    intro h7 t7 tk7 k7
    (try dsimp only at k7)
    have F7 := Fr.later F5 k7
    have N7 := News.later N5 k7
    clear F5 N5 hr
    rw [byteArr3]
    refine cOf ?_
    k_steps
    rename Fr _ _ _ _ => F; rename News _ _ _ _ => N
    refine go_on ⟨fun Q' h => keeper_fn (X _ _ rfl |> F.keep _ _) rfl Q' h, ?_⟩
    refine useC (byteswap_spec (hO (by exact F.keep)) _ 1 rfl (by decide) (by decide) _ _) F N ((hRd _).le (by decide) (by decide)) ?_
    rintro _ h8 tk8 k8 F8 N8 ⟨t8, rfl⟩
    clear F N
    rw [swIn3]
    dsimp only at F8 N8 ⊢
    refine cOf ?_
    k_steps
    dsimp only
    refine cOf ?_
    k_steps
    rename Fr _ _ _ _ => F; rename News _ _ _ _ => N
    dsimp only
    refine go_on ?_
    refine dict1 F N (TopRead.nolimit T) ?_
    intro d8 h9 o8 F9 N9 lt8 lo8 hd8
    clear F N
    dsimp only
    k_steps
    dsimp only
    have e0 : (([by8 (k % 10), by8 (k / 10 % 10), by8 (k / 100)].getD (Int.toNat 0) 0).toNat : Int) = k % 10 := by8_val (by omega) (by omega)
    have e1 : (([by8 (k % 10), by8 (k / 10 % 10), by8 (k / 100)].getD (Int.toNat 1) 0).toNat : Int) = k / 10 % 10 := by8_val (by omega) (by omega)
    have e2 : (([by8 (k % 10), by8 (k / 10 % 10), by8 (k / 100)].getD (Int.toNat 2) 0).toNat : Int) = k / 100 := by8_val (by omega) (by omega)
    refine go_on ?_
    rw [e0]
    refine mulSmall (by decide) (by decide) ?_
    intro t11
    dsimp only
    k_steps
    refine go_on ?_
    dsimp only
    (try rw [e1])
    refine mulSmall (by decide) (by decide) ?_
    intro t12
    dsimp only
    k_steps
    (try rw [e2])
    any_goals (first | (exfalso; rename (PySem.Spec.lookup _ _ = none) => hl; rw [lookup_enc, gt_of (hq1 ()).nodup hi] at hl; cases hl; done) | skip)
    rename (PySem.Spec.lookup _ _ = some _) => hl
    rw [lookup_enc, gt_of (hq1 ()).nodup hi] at hl
    cases hl
    rename (Flat _ _) => hv
    obtain ⟨u1, rfl⟩ := hv.int_inv
    rename Fr _ _ _ _ => F; rename News _ _ _ _ => N
    dsimp only
    refine dict1_made F N lt8 hd8 ?_
    intro h10 o10 F10 N10 hd10 hf10
    clear F N
    dsimp only
    k_steps
    rename Fr _ _ _ _ => F; rename News _ _ _ _ => N
    have hk9 : 100 * (k % 10) + 10 * (k / 10 % 10) + k / 100 = turnKey k := rfl
    rw [hk9] at hf10 hd10
    have hl100 : i ≤ 100 := by have := (List.getElem?_eq_some_iff.mp hi).1; omega
    refine go_on ?_
    refine use (add_callers_spec (hO (by exact F.keep)) (IsD.ofN N (.tail _ (List.mem_append_right _ (.head _))) lo hio hfo) (IsD.ofN N (.head _) lo8 hd10 hf10) (by show _ + 1 ≤ 1000; omega)) F N ((hRd _).le (by decide) (by decide)) ?_
    rintro _ h11 tk11 k11 F11 N11 ⟨r', rfl, hD', hn'⟩
    obtain ⟨lo', kvs', hdo', hf'⟩ := hD'
    obtain ⟨o', ho', hio'⟩ := Heap.dictOf_iff.mp hdo'
    have N12 := newsAdd F N k11 hn' ho'
    have hne : ∀ q ∈ own, q.1 ≠ r' := by
      intro q hq e
      have := (N q (.tail _ (List.mem_append_left _ hq))).1
      have hn2 := hn'
      dsimp only at hn2
      rw [e, hn2] at this; cases this
    clear F N N11
    k_steps
    rename Fr _ _ _ _ => F; rename News _ _ _ _ => N
    refine EndS.next [(r', o')] F ?_ ?_ ⟨rfl, ?_, r', o', kvs', rfl, rfl, hio', ?_, lo'⟩
    · intro p hp
      refine N p ?_
      rcases List.mem_append.mp hp with hp | hp
      · exact .tail _ (.tail _ (List.mem_append_left _ hp))
      · rw [List.mem_singleton.mp hp]; exact .head _
    · intro q hq p hp
      rw [List.mem_singleton.mp hp]; exact hne q hq
    · rw [turn_take hi, hT0]
      exact Nat.le_trans (addc_length _ _) (by show _ + 1 ≤ _; omega)
    · rw [turn_take hi, hT0]; exact hf'
  case done =>
    rintro h3 tk3 m₁ news₁ F3 N3 ⟨hm1, hlen, r, o, kvs, hm2, rfl, hio, hfo, lo⟩
    rw [List.take_length] at hfo
    clear F N
    have F4 := Fr.ov (l := [(Str.ofString "turned", _)]) F3 (by intro p hp; simp only [List.mem_cons, List.not_mem_nil, or_false] at hp; rcases hp with rfl <;> assumption); clear F3
    refine cOf ?_
    k_steps
    rename Fr _ _ _ _ => F; rename News _ _ _ _ => N
    exact hQ _ _ _ F.keep ⟨r, rfl, (N _ (.head _)).2.2, IsD.ofN N (.head _) lo hio hfo⟩
end Mine
end
section
open PySem PySem.W PyProof.Rows PySem.Calls PySem.Spec PyProof.V
set_option maxRecDepth 100000
set_option maxHeartbeats 8000000
namespace Mine
local macro_rules | `(tactic| walk_at "eval Dict") => `(tactic| refine stop_here ?_)
local macro_rules | `(tactic| walk_at "eval Dict cons cons") => `(tactic| refine stop_here ?_)
local macro_rules | `(tactic| walk_at "call ref") => `(tactic| refine stop_here ?_)
local macro_rules | `(tactic| walk_at "call type:bytes") => `(tactic| refine stop_here ?_)
local macro_rules | `(tactic| walk_at "binaryOp Mult int int") => `(tactic| refine stop_here ?_)
local macro_rules | `(tactic| walk_at "exec For Name Tuple cons nil") => `(tactic| refine stop_here ?_)
local macro_rules | `(tactic| walk_at "exec For Name Tuple") => `(tactic| refine stop_here ?_)
section
variable {M : Model} {A : Around} {E : Value → Shared → Prop} {s : Shared} {env : Env}
theorem cTuple2 {e e' : Expr} {k : Nat} {pos : Pos} {t : Sem Value} {Q : Value → Shared → Prop} (hs : backTo pos (starEach [e, e'] env) = [(false, t), (false, eval e' env)])
    (h : wpC M A t (fun v s₁ => wpC M A (eval e' env) (fun v' s₂ => wpC M A (newTuple [v, v']) Q E s₂) E s₁) E s) : wpC M A (eval (.Tuple [e, e'] k pos) env) Q E s := by
  refine cTuple ?_
  rw [hs]
  exact cSplicedCons (cMono h (fun v s₁ h₁ => cSplicedCons (cMono h₁ (fun v' s₂ h₂ => cSplicedNil h₂) fun _ _ x => x)) fun _ _ x => x)
end
section
variable {w : World} {A : Around} {s : Shared} {env : Env} {h₀ : Heap} {body : List Stmt} {Q : Flow → Shared → Prop} {target : Expr}
theorem tupC {l : Addr} {vs : List Value} {m : Str → Option Value} {news : List (Addr × Obj)} (hh : A.handled = none)
    (F : Fr h₀ env.locals s.heap m) (N : News h₀ env.locals s.heap news) (hL : IsTup s.heap l vs.toArray) (hdL : l ≠ env.locals) (hdn : ∀ p ∈ news, p.1 ≠ l)
    (J : Nat → (Str → Option Value) → List (Addr × Obj) → Prop) (h0 : J 0 m news)
    (step : ∀ i v h₁ m₁ news₁ tk₁ own, vs[i]? = some v → J i m₁ news₁ → Apart own news₁ → (∀ q ∈ own, h₁.get? q.1 = some q.2) → Fr h₀ env.locals h₁ m₁ → News h₀ env.locals h₁ (own ++ news₁) →
      wpAny (model PySem.Challenge.rw_xp0024_01.row.prog w) A (assign target env v) (fun _ s₃ => wpC (model PySem.Challenge.rw_xp0024_01.row.prog w) A (execs body env)
        (EndS h₀ env.locals own (J (i + 1)) { s with heap := h₁, toks := tk₁ } (fun v s' => Q (.ret v) s') fun s' => Q .next s') No s₃) No { s with heap := h₁, toks := tk₁ })
    (done : ∀ h' tk m' news', Fr h₀ env.locals h' m' → News h₀ env.locals h' news' → J vs.length m' news' → Q .next { s with heap := h', toks := tk }) :
    wpAny (model PySem.Challenge.rw_xp0024_01.row.prog w) A (pyIter (.ref l)) (fun it s₂ =>
      codeC (model PySem.Challenge.rw_xp0024_01.row.prog w) A (.forLoop target it body [] env) (fun r s' => match r with | .ok f => Q f s' | .error _ => False) s₂) No s := by
  obtain ⟨ol, hol, _⟩ := id hL
  have hne : l ≠ s.heap.objs.size := Nat.ne_of_lt (Heap.lt_size hol)
  refine wpAny_pyIter_tuple hL ?_
  refine cTurns (s := { s with heap := _ }) (KTurns.ofWalks (Walks.tuple hh s.heap.objs.size l hne vs.toArray) fun i v s Q E st q => letGo_tupleiter st.1 q) ?_ ?_ ?_ ⟨⟨_, Heap.get?_push_size _ rfl, rfl, rfl⟩, IsTup.keeps hL fun b o e => Heap.get?_push_of_some _ e⟩ (F.push _) (fun p hp => ⟨Heap.get?_push_of_some _ (N p hp).1, (N p hp).2⟩) ?_ J h0 ?_ (by rw [List.size_toArray]; exact done)
  · rintro i h ⟨⟨oi, he, _⟩, ⟨o, ho, _⟩⟩ b hb
    rcases List.mem_cons.mp hb with rfl | hb
    · exact ⟨_, he⟩
    · exact ⟨o, List.mem_singleton.mp hb ▸ ho⟩
  · intro hb
    rcases List.mem_cons.mp hb with e | hb
    · exact absurd F.ns.lt (e ▸ Nat.lt_irrefl _)
    · exact hdL (List.mem_singleton.mp hb).symm
  · intro b hb
    rw [List.mem_singleton.mp hb]
    exact next_is_new F
  · intro p hp hb
    rcases List.mem_cons.mp hb with e | hb
    · exact absurd (Heap.lt_size (N p hp).1) (e ▸ Nat.lt_irrefl _)
    · exact hdn p hp (List.mem_singleton.mp hb)
  · intro i v m₁ news₁ h₁ tk₁ own hi hx hJ hap hown F₁ N₁
    exact step i v h₁ m₁ news₁ tk₁ own (by simpa using hx) hJ hap hown F₁ N₁
end
def AH : List UInt8 := [0, 1, 2, 1, 2, 0, 2, 0, 1]
def BK : List UInt8 := [2, 1, 0, 0, 2, 1, 1, 0, 2]
def pAt (b : List UInt8) (k : Nat) : Nat := (b.getD k 0).toNat
def detPr (X Y Z : List Int) (g : Int) (b : List UInt8) (k : Nat) : Int := g * Y.getD (pAt AH (k + 1)) 0 * X.getD (pAt b k) 0 * Z.getD (pAt b (k + 2)) 0
def detStep (X Y Z : List Int) (g : Int) (b : List UInt8) (T : List (Int × Int)) (kk : Nat) : List (Int × Int) := addc T [(g * (3 * kk + 1), detPr X Y Z g b (3 * kk))]
def detHalf (X Y Z : List Int) (T : List (Int × Int)) (i : Nat) : List (Int × Int) := (List.range 3).foldl (detStep X Y Z (if i = 0 then 1 else -1) (if i = 0 then AH else BK)) T
def detTab (X Y Z : List Int) : List (Int × Int) := (List.range 2).foldl (detHalf X Y Z) []
theorem byteArrAH : byteArr [0, 1, 2, 1, 2, 0, 2, 0, 1] = AH.toArray := rfl
theorem swAH : swIn AH 3 0 = BK := by decide +kernel
theorem pAt_lt {b : List UInt8} (h : ∀ x ∈ b, x.toNat < 3) (k : Nat) : pAt b k < 3 := by
  unfold pAt
  rw [List.getD_eq_getElem?_getD]
  cases hk : b[k]? with
  | none => decide
  | some x => exact h _ (List.mem_of_getElem? hk)
theorem AH_lt (k : Nat) : pAt AH k < 3 := pAt_lt (by decide) k
theorem BK_lt (k : Nat) : pAt BK k < 3 := pAt_lt (by decide) k
abbrev tupO (xs : Array Value) : Obj := { cls := .type "tuple", data := .seq xs }
def DetJ (w : World) (D0 D1 : Addr) (o0 o1 : Obj) (d : List (Int × Int)) (m : Str → Option Value) (pre news : List (Addr × Obj)) : Prop :=
  ∃ r o kvs, m (Str.ofString "products") = some (.ref r) ∧ news = pre ++ [(D1, o1), (D0, o0), (r, o)] ∧ o.IsDictOf (IK w) kvs ∧ FlatPairs PyData.int kvs (enc d) ∧ (r == sysModules) = false ∧ r ≠ D0 ∧ r ≠ D1 ∧ ∀ q ∈ pre, q.1 ≠ r
theorem getD_bd {n : Nat} {xs : List Int} (h : ∀ x ∈ xs, Bd n x) (k : Nat) : Bd n (xs.getD k 0) := by
  rw [List.getD_eq_getElem?_getD]
  cases hk : xs[k]? with
  | none => exact Bd.zero
  | some x => exact h _ (List.mem_of_getElem? hk)
theorem mem_more {α : Type} {q : α} {a b : List α} {x y z : α} (h : q ∈ a ++ (b ++ [x, y])) : q ∈ a ++ (b ++ [x, y, z]) := by
  simp only [List.mem_append, List.mem_cons, List.not_mem_nil, or_false] at h ⊢
  rcases h with h | h | h | h
  · exact .inl h
  · exact .inr (.inl h)
  · exact .inr (.inr (.inl h))
  · exact .inr (.inr (.inr (.inl h)))
theorem mem_swap {α : Type} {p x y z r o : α} {a b : List α} (h : p ∈ a ++ (b ++ [x, y, r])) : p ∈ r :: o :: (a ++ (b ++ [x, y, z])) := by
  simp only [List.mem_append, List.mem_cons, List.not_mem_nil, or_false] at h ⊢
  rcases h with h | h | h | h | h
  · exact .inr (.inr (.inl h))
  · exact .inr (.inr (.inr (.inl h)))
  · exact .inr (.inr (.inr (.inr (.inl h))))
  · exact .inr (.inr (.inr (.inr (.inr (.inl h)))))
  · exact .inl h
theorem determinant_spec {w : World} {mg mb : Str → Option Value} {s : Shared} (O : Ok w mg mb s.heap) {r : Addr} {xs ys zs : List Int} (h₁ : Mat s.heap r xs ys zs) (hxl : xs.length = 3) (hyl : ys.length = 3) (hzl : zs.length = 3)
    (bx : ∀ x ∈ xs, Bd 100000 x) (hy : ∀ x ∈ ys, Bd 100000 x) (hz : ∀ x ∈ zs, Bd 100000 x) :
    SpecC w 188 [.ref r] s 3 60 (fun v h => ∃ u, v = .int (sumv (detTab xs ys zs)) u) := by
  unfold SpecC
  intro dp un fr gs Q hR hQ
  have hO : ∀ {h : Heap}, Keeps s.heap h → Ok w mg mb h := fun k => O.keeps k
  obtain ⟨r0, r1, r2, hr, ⟨vx, hvx, hax⟩, ⟨vy, hvy, hay⟩, ⟨vz, hvz, haz⟩⟩ := h₁
  obtain ⟨X, T⟩ := O
  revert X; k_fill; intro X
  refine cCall ?_
  k_dflt (refine' cEnterX X T [(Str.ofString "rows", .ref r)] ?k6 ?k7 ?k8 ?k9 ?kB ?kN ?_ ?c2 ?c3 ?c4 ?c5; (case k6 => k_is); (case k7 => k_is); (case k8 => (have := hR.d; dsimp only at this ⊢; omega)); (case k9 => exact rfl); (case c5 => decide); (case kB => exact locs rfl); (case kN => (dsimp only [List.map]; decide)); (case c2 => exact rfl); (case c3 => exact rfl); (case c4 => exact rfl); k_whole; intro h' F' N'; (try dsimp only))
  have hRd := fun env => Room.deeper (env := env) hR
  refine cExecs (cAssign (cOf ?_))
  k_steps
  rename Fr _ _ _ _ => F; rename News _ _ _ _ => N
  refine go_on ?_
  (try dsimp only)
  refine call_bytes_ints (ns := [0, 1, 2, 1, 2, 0, 2, 0, 1]) ⟨_, (N _ (.head _)).1, rfl, _, rfl⟩ (by exact .cons _ _ (.cons _ _ (.cons _ _ (.cons _ _ (.cons _ _ (.cons _ _ (.cons _ _ (.cons _ _ (.cons _ _ .nil))))))))) (by decide) (by show 9 ≤ sizeLine; decide) (hRd _).h ?_
  intro h7 t7 tk7 k7
  (try dsimp only at k7)
  have F7 := Fr.later F k7
  have N7 := News.later N k7
  clear F N
  rw [byteArrAH]
  refine cOf ?_
  k_steps
  refine cExecs (cAssign (cOf ?_))
  k_steps
  refine cOf ?_
  k_steps
  (try dsimp only)
  refine cExecs (cFor (cTuple2 rfl (cOf (ifNo ?_))))
  k_steps
  refine cTuple2 rfl (cOf (ifNo ?_))
  k_steps
  refine cCall2 .frame (.inl rfl) rfl (cOf ?_)
  k_steps
  refine cOf (ifNo ?_)
  k_steps
  refine cOf ?_
  k_steps
  dsimp only
  rename Fr _ _ _ _ => F; rename News _ _ _ _ => N
  refine go_on ⟨fun Q' h => keeper_fn (X _ _ rfl |> F.keep _ _) rfl Q' h, ?_⟩
  refine useC (byteswap_spec (hO (by exact F.keep)) AH 3 rfl (by decide) (by decide) _ _) F N ((hRd _).le (by decide) (by decide)) ?_
  rintro _ h8 tk8 k8 F8 N8 ⟨t8, rfl⟩
  clear F N
  rw [swAH]
  dsimp only at F8 N8 ⊢
  refine cOf ?_
  k_steps
  (try dsimp only)
  refine cOf ?_
  k_steps
  dsimp only
  rename Fr _ _ _ _ => F; rename News _ _ _ _ => N
  rename_i d0 _ o0 _ _ _ _ _ _ _ D0 _ l2 D1 _ l3 DD _ l4
  rename Obj.IsDictOf (intKind _ _) _ _ => hi0
  rename FlatPairs PyData.int _ _ => hf0
  rename (_ == sysModules) = false => lo0
  have hT : IsTup _ _ [Value.ref D0, Value.ref D1].toArray := ⟨_, (N _ (.head _)).1, rfl, _, rfl⟩
  have hTL := (N _ (.head _)).2.1
  have nD01 : D0 ≠ D1 := Nat.ne_of_lt l3.1
  generalize tk7 + 1 + 1 + 1 + 1 = tS1 at N
  generalize tk7 + 1 + 1 = tS0 at N
  have nd : d0 ≠ D0 ∧ d0 ≠ D1 ∧ d0 ≠ DD := ⟨Nat.ne_of_lt l2.1, Nat.ne_of_lt l3.2.1, Nat.ne_of_lt l4.2.2.1⟩
  refine tupC (vs := [Value.ref D0, Value.ref D1]) (hRd _).h F (news := [(D1, tupO #[Value.int (-1) tS1, Value.bytes BK.toArray t8]), (D0, tupO #[Value.int 1 tS0, Value.bytes AH.toArray t7]), (d0, o0)])
    (fun p hp => N p (.tail _ (List.mem_of_mem_take (i := 3) hp))) hT hTL ?dn
    (fun i m news => m (Str.ofString "rows") = some (.ref r) ∧ m (Str.ofString "ahead") = some (.bytes AH.toArray t7) ∧ ((List.range i).foldl (detHalf xs ys zs) []).length ≤ 3 * i ∧
      DetJ w D0 D1 (tupO #[Value.int 1 tS0, Value.bytes AH.toArray t7]) (tupO #[Value.int (-1) tS1, Value.bytes BK.toArray t8]) ((List.range i).foldl (detHalf xs ys zs) []) m [] news)
    ⟨rfl, rfl, Nat.le_refl _, d0, o0, _, rfl, rfl, hi0, hf0, lo0, nd.1, nd.2.1, (fun _ hq => nomatch hq)⟩ ?step ?done
  case dn =>
    intro p hp
    simp only [List.mem_cons, List.not_mem_nil, or_false] at hp
    rcases hp with rfl | rfl | rfl
    · exact Nat.ne_of_lt l4.1
    · exact Nat.ne_of_lt l4.2.1
    · exact nd.2.2
  case step =>
    rintro i v h3 m₁ news₁ tk3 own hi ⟨hm1, hm2, hlen, ro, o, kvs, hm3, rfl, hio, hfo, lo, nr0, nr1, hpre⟩ hap hown F3 N3
    obtain ⟨TT, g, b, tS, tP, rfl, hTT, hgb⟩ : ∃ TT g b tS tP, v = .ref TT ∧ IsTup h3 TT #[.int g tS, .bytes b.toArray tP] ∧ ((i = 0 ∧ g = 1 ∧ b = AH) ∨ (i = 1 ∧ g = -1 ∧ b = BK)) := by
      match i, hi with
      | 0, hi => exact ⟨D0, 1, AH, _, _, (Option.some.inj hi).symm, ⟨_, (N3 (D0, _) (List.mem_append_right _ (.tail _ (.head _)))).1, rfl, _, rfl⟩, .inl ⟨rfl, rfl, rfl⟩⟩
      | 1, hi => exact ⟨D1, -1, BK, _, _, (Option.some.inj hi).symm, ⟨_, (N3 (D1, _) (List.mem_append_right _ (.head _))).1, rfl, _, rfl⟩, .inr ⟨rfl, rfl, rfl⟩⟩
    have hg : -1 ≤ g ∧ g ≤ 1 := by rcases hgb with ⟨_, rfl, _⟩ | ⟨_, rfl, _⟩ <;> decide
    have hb9 : b.length = 9 := by rcases hgb with ⟨_, _, rfl⟩ | ⟨_, _, rfl⟩ <;> rfl
    have hb3 : ∀ k, pAt b k < 3 := by rcases hgb with ⟨_, _, rfl⟩ | ⟨_, _, rfl⟩; exact AH_lt; exact BK_lt
    have hi2 : i < 2 := by rcases hgb with ⟨rfl, _⟩ | ⟨rfl, _⟩ <;> decide
    clear F N hT hi
    generalize hD0 : (List.range i).foldl (detHalf xs ys zs) [] = T0 at hlen hfo
    have F4 := Fr.ov (l := [(Str.ofString "rows", _), (Str.ofString "ahead", _), (Str.ofString "products", _)]) F3 (by intro p hp; simp only [List.mem_cons, List.not_mem_nil, or_false] at hp; rcases hp with rfl | rfl | rfl <;> assumption); clear F3
    k_steps
    refine cOf ?_
    k_steps
    rename Fr _ _ _ _ => F; rename News _ _ _ _ => N
    refine go_on ?_
    refine forT F ?_
    k_steps
    rename Fr _ _ _ _ => F; rename News _ _ _ _ => N
    (try dsimp only)
    have hK : IsTup _ _ [Value.int 0 _, Value.int 3 _, Value.int 6 _].toArray := ⟨_, (N _ (.head _)).1, rfl, _, rfl⟩
    have hKL := (N _ (.head _)).2.1
    rename (∀ p : Addr × Obj, p ∈ _ → p.1 < _) => hKlt
    refine tupAt (hRd _).h F (fun p hp => N p (.tail _ hp)) hK hKL (fun p hp => Nat.ne_of_lt (hKlt p hp))
      (fun kk m news => m (Str.ofString "rows") = some (.ref r) ∧ m (Str.ofString "ahead") = some (.bytes AH.toArray t7) ∧ m (Str.ofString "sign") = some (.int g tS) ∧ m (Str.ofString "places") = some (.bytes b.toArray tP) ∧
        ((List.range kk).foldl (detStep xs ys zs g b) T0).length ≤ T0.length + kk ∧
        DetJ w D0 D1 (tupO #[Value.int 1 tS0, Value.bytes AH.toArray t7]) (tupO #[Value.int (-1) tS1, Value.bytes BK.toArray t8]) ((List.range kk).foldl (detStep xs ys zs g b) T0) m own news)
      ⟨rfl, rfl, rfl, rfl, Nat.le_refl _, ro, o, kvs, rfl, rfl, hio, hfo, lo, nr0, nr1, fun q hq => hap q hq _ (.tail _ (.tail _ (.head _)))⟩ ?step2 ?done2
    case step2 =>
      rintro kk v h5 hkk m₅ news₅ tk5 own5 ⟨hm1, hm2, hm3, hm4, hlen5, r5, o5, kvs5, hm5, rfl, hio5, hfo5, lo5, nr50, nr51, hpre5⟩ hap5 hown5 F5 N5
      obtain ⟨k, tk', rfl, hk⟩ := IntsAre.at (ns := [0, 3, 6]) (by exact .cons _ _ (.cons _ _ (.cons _ _ .nil))) _ _ hkk
      have hk3 : kk < 3 := (List.getElem?_eq_some_iff.mp hk).1
      have hk' : k = 3 * (kk : Int) := by
        match kk, hk3, hk with
        | 0, _, hk => exact (Option.some.inj hk).symm
        | 1, _, hk => exact (Option.some.inj hk).symm
        | 2, _, hk => exact (Option.some.inj hk).symm
      subst hk'
      clear F N hK hKL hKlt hk hkk
      generalize hT5 : (List.range kk).foldl (detStep xs ys zs g b) T0 = T5 at hlen5 hfo5
      have hA1 : 3 * kk + 1 < AH.toArray.size := by show _ < 9; omega
      have hA2 : (AH.getD (3 * (kk : Int) + 1).toNat 0).toNat < 3 := AH_lt _
      have F4 := Fr.ov (l := [(Str.ofString "rows", _), (Str.ofString "ahead", _), (Str.ofString "sign", _), (Str.ofString "places", _), (Str.ofString "products", _)]) F5 (by intro p hp; simp only [List.mem_cons, List.not_mem_nil, or_false] at hp; rcases hp with rfl | rfl | rfl | rfl | rfl <;> assumption); clear F5
      (with_reducible show wpAny _ _ _ _ _ _)
      k_fold
      k_steps
      have hgb1 : Bd 1 g := by unfold Bd; omega
      have hy0 : Bd 100000 (ys.getD (pAt AH (3 * kk + 1)) 0) := getD_bd hy _
      have hx0 : Bd 100000 (xs.getD (pAt b (3 * kk)) 0) := getD_bd bx _
      have hz0 : Bd 100000 (zs.getD (pAt b (3 * kk + 2)) 0) := getD_bd hz _
      have e0 : ys.getD (((AH.getD (3 * (kk : Int) + 1).toNat 0).toNat : Int)).toNat 0 = ys.getD (pAt AH (3 * kk + 1)) 0 := rfl
      rw [e0]
      have hP : ∃ P : Nat → Int, P 0 = g * ys.getD (pAt AH (3 * kk + 1)) 0 ∧ P 1 = P 0 * xs.getD (pAt b (3 * kk)) 0 ∧ P 2 = P 1 * zs.getD (pAt b (3 * kk + 2)) 0 ∧ Bd 300001 (P 0) ∧ Bd 300001 (P 1) ∧ P 2 = detPr xs ys zs g b (3 * kk) := by
        refine ⟨fun j => match j with | 0 => g * ys.getD (pAt AH (3 * kk + 1)) 0 | 1 => g * ys.getD (pAt AH (3 * kk + 1)) 0 * xs.getD (pAt b (3 * kk)) 0 | _ => detPr xs ys zs g b (3 * kk), rfl, rfl, rfl, (hgb1.mul hy0).mono (by omega), ((hgb1.mul hy0).mul hx0).mono (by omega), rfl⟩
      obtain ⟨P, hP0, hP1, hP2, bP0, bP1, hPd⟩ := hP
      rename Fr _ _ _ _ => F; rename News _ _ _ _ => N; refine go_on ?_; refine use (imul_spec (hO (by exact F.keep)) _ _ _ _ (hgb1.mulOk hy0 (by decide))) F N ((hRd _).le (by decide) (by decide)) ?_
      rintro _ h7' tk7' k7' F7' N7' ⟨t9, rfl⟩
      rw [← hP0]
      clear F N
      k_steps
      rename Fr _ _ _ _ => F; rename News _ _ _ _ => N
      refine go_on ?_
      refine forT F ?_
      k_steps
      rename Fr _ _ _ _ => F; rename News _ _ _ _ => N
      (try dsimp only)
      have hK : IsTup _ _ [Value.int 0 _, Value.int 2 _].toArray := ⟨_, (N _ (.head _)).1, rfl, _, rfl⟩
      have hKL := (N _ (.head _)).2.1
      rename (∀ p : Addr × Obj, p ∈ _ → p.1 < _) => hKlt
      refine tupAt (hRd _).h F (fun p hp => N p (.tail _ hp)) hK hKL (fun p hp => Nat.ne_of_lt (hKlt p hp))
        (fun jj m news => m (Str.ofString "rows") = some (.ref r) ∧ m (Str.ofString "ahead") = some (.bytes AH.toArray t7) ∧ m (Str.ofString "sign") = some (.int g tS) ∧ m (Str.ofString "places") = some (.bytes b.toArray tP) ∧
          m (Str.ofString "k") = some (.int (3 * (kk : Int)) tk') ∧ m (Str.ofString "products") = some (.ref r5) ∧ (∃ u, m (Str.ofString "product") = some (.int (P jj) u)) ∧
          news = own5 ++ (own ++ [(D1, tupO #[Value.int (-1) tS1, Value.bytes BK.toArray t8]), (D0, tupO #[Value.int 1 tS0, Value.bytes AH.toArray t7]), (r5, o5)]))
        ⟨rfl, rfl, rfl, rfl, rfl, rfl, ⟨_, rfl⟩, rfl⟩ ?step3 ?done3
      case step3 =>
        rintro jj v h7 hjj m₇ news₇ tk7 own7 ⟨hm1, hm2, hm3, hm4, hm5, hm6, ⟨u7, hm7⟩, rfl⟩ hap7 hown7 F7 N7
        obtain ⟨j, tj, rfl, hj⟩ := IntsAre.at (ns := [0, 2]) (by exact .cons _ _ (.cons _ _ .nil)) _ _ hjj
        clear F N hK hKL hKlt hjj
        have hB0 : (b.getD (3 * (kk : Int) + 0).toNat 0).toNat < 3 := hb3 _
        have hB2 : (b.getD (3 * (kk : Int) + 2).toNat 0).toNat < 3 := hb3 _
        have hBs : 3 * kk + 2 < b.toArray.size := by rw [List.size_toArray]; omega
        have F4 := Fr.ov (l := [(Str.ofString "rows", _), (Str.ofString "ahead", _), (Str.ofString "sign", _), (Str.ofString "places", _), (Str.ofString "k", _), (Str.ofString "products", _), (Str.ofString "product", _)]) F7 (by intro p hp; simp only [List.mem_cons, List.not_mem_nil, or_false] at hp; rcases hp with rfl | rfl | rfl | rfl | rfl | rfl | rfl <;> assumption); clear F7
        have hj2 : jj < 2 := (List.getElem?_eq_some_iff.mp hj).1
        match jj, hj2 with
        | 0, _ =>
          obtain rfl : (0 : Int) = j := Option.some.inj hj
          (with_reducible show wpAny _ _ _ _ _ _)
          k_fold
          k_steps
          have e1 : xs.getD (((b.getD (3 * (kk : Int) + 0).toNat 0).toNat : Int)).toNat 0 = xs.getD (pAt b (3 * kk)) 0 := rfl
          rw [e1]
          rename Fr _ _ _ _ => F; rename News _ _ _ _ => N; refine go_on ?_; refine use (imul_spec (hO (by exact F.keep)) _ _ _ _ (bP0.mulOk hx0 (by decide))) F N ((hRd _).le (by decide) (by decide)) ?_
          rintro _ h9 tk9 k9 F9 N9 ⟨t9, rfl⟩
          rw [← hP1]
          clear F N
          k_steps
          rename Fr _ _ _ _ => F; rename News _ _ _ _ => N
          show EndS _ _ _ _ _ _ _ _ _
          exact EndS.next (own5 ++ (own ++ [(D1, tupO #[Value.int (-1) tS1, Value.bytes BK.toArray t8]), (D0, tupO #[Value.int 1 tS0, Value.bytes AH.toArray t7]), (r5, o5)])) F N (fun q hq p hp => hap7 q hq p hp) ⟨rfl, rfl, rfl, rfl, rfl, rfl, ⟨_, rfl⟩, rfl⟩
        | 1, _ =>
          obtain rfl : (2 : Int) = j := Option.some.inj hj
          (with_reducible show wpAny _ _ _ _ _ _)
          k_fold
          k_steps
          have e1 : zs.getD (((b.getD (3 * (kk : Int) + 2).toNat 0).toNat : Int)).toNat 0 = zs.getD (pAt b (3 * kk + 2)) 0 := rfl
          rw [e1]
          rename Fr _ _ _ _ => F; rename News _ _ _ _ => N; refine go_on ?_; refine use (imul_spec (hO (by exact F.keep)) _ _ _ _ (bP1.mulOk hz0 (by decide))) F N ((hRd _).le (by decide) (by decide)) ?_
          rintro _ h9 tk9 k9 F9 N9 ⟨t9, rfl⟩
          rw [← hP2]
          clear F N
          k_steps
          rename Fr _ _ _ _ => F; rename News _ _ _ _ => N
          show EndS _ _ _ _ _ _ _ _ _
          exact EndS.next (own5 ++ (own ++ [(D1, tupO #[Value.int (-1) tS1, Value.bytes BK.toArray t8]), (D0, tupO #[Value.int 1 tS0, Value.bytes AH.toArray t7]), (r5, o5)])) F N (fun q hq p hp => hap7 q hq p hp) ⟨rfl, rfl, rfl, rfl, rfl, rfl, ⟨_, rfl⟩, rfl⟩
      case done3 =>
        rintro h7 tk7 m₇ news₇ F7 N7 ⟨hm1, hm2, hm3, hm4, hm5, hm6, ⟨u7, hm7⟩, rfl⟩
        replace hm7 : m₇ (Str.ofString "product") = some (.int (P 2) u7) := hm7
        rw [hPd] at hm7
        clear F N hK hKL hKlt
        have F4 := Fr.ov (l := [(Str.ofString "rows", _), (Str.ofString "ahead", _), (Str.ofString "sign", _), (Str.ofString "places", _), (Str.ofString "k", _), (Str.ofString "products", _), (Str.ofString "product", _)]) F7 (by intro p hp; simp only [List.mem_cons, List.not_mem_nil, or_false] at hp; rcases hp with rfl | rfl | rfl | rfl | rfl | rfl | rfl <;> assumption); clear F7
        (with_reducible show wpAny _ _ _ _ _ _)
        k_fold
        k_steps
        rename Fr _ _ _ _ => F; rename News _ _ _ _ => N
        (try dsimp only)
        refine go_on ?_
        refine dict1 F N (TopRead.nolimit T) ?_
        intro d8 h9 o8 F9 N9 lt8 lo8 hd8
        clear F N
        (try dsimp only)
        k_steps
        refine go_on ?_
        (try dsimp only)
        refine mulSmall (by omega) (by omega) ?_
        intro t11
        (try dsimp only)
        k_steps
        rename Fr _ _ _ _ => F; rename News _ _ _ _ => N
        (try dsimp only)
        refine dict1_made F N lt8 hd8 ?_
        intro h10 o10 F10 N10 hd10 hf10
        clear F N
        (try dsimp only)
        k_steps
        rename Fr _ _ _ _ => F; rename News _ _ _ _ => N
        refine go_on ?_
        refine use (add_callers_spec (hO (by exact F.keep)) (IsD.ofN N (.tail _ (List.mem_append_right _ (List.mem_append_right _ (.tail _ (.tail _ (.head _)))))) lo5 hio5 hfo5) (IsD.ofN N (.head _) lo8 hd10 hf10) (by show _ + 1 ≤ 1000; omega)) F N ((hRd _).le (by decide) (by decide)) ?_
        rintro _ h11 tk11 k11 F11 N11 ⟨r', rfl, hD', hn'⟩
        obtain ⟨lo', kvs', hdo', hf'⟩ := hD'
        obtain ⟨o', ho', hio'⟩ := Heap.dictOf_iff.mp hdo'
        have N12 := newsAdd F N k11 hn' ho'
        have hne : ∀ q ∈ own5 ++ (own ++ [(D1, tupO #[Value.int (-1) tS1, Value.bytes BK.toArray t8]), (D0, tupO #[Value.int 1 tS0, Value.bytes AH.toArray t7])]), q.1 ≠ r' := by
          intro q hq e
          have := (N q (.tail _ (mem_more hq))).1
          have hn2 := hn'
          dsimp only at hn2
          rw [e, hn2] at this; cases this
        clear F N N11
        k_steps
        rename Fr _ _ _ _ => F; rename News _ _ _ _ => N
        show EndS _ _ _ _ _ _ _ _ _
        refine EndS.next (own ++ [(D1, tupO #[Value.int (-1) tS1, Value.bytes BK.toArray t8]), (D0, tupO #[Value.int 1 tS0, Value.bytes AH.toArray t7]), (r', o')]) F ?_ ?_ ⟨rfl, rfl, rfl, rfl, ?_, r', o', kvs', rfl, rfl, hio', ?_, lo', ?_, ?_, ?_⟩
        · exact fun p hp => N p (mem_swap hp)
        · intro q hq p hp
          simp only [List.mem_append, List.mem_cons, List.not_mem_nil, or_false] at hp
          rcases hp with hp | rfl | rfl | rfl
          · exact hap5 q hq p (List.mem_append_left _ hp)
          · exact hap5 q hq (D1, tupO #[Value.int (-1) tS1, Value.bytes BK.toArray t8]) (List.mem_append_right _ (.head _))
          · exact hap5 q hq (D0, tupO #[Value.int 1 tS0, Value.bytes AH.toArray t7]) (List.mem_append_right _ (.tail _ (.head _)))
          · exact hne q (List.mem_append_left _ hq)
        · rw [fold_range, hT5]
          exact Nat.le_trans (addc_length _ _) (by show _ + 1 ≤ _; omega)
        · rw [fold_range, hT5]; exact hf'
        · exact fun e => hne (D0, tupO #[Value.int 1 tS0, Value.bytes AH.toArray t7]) (List.mem_append_right _ (List.mem_append_right _ (.tail _ (.head _)))) e.symm
        · exact fun e => hne (D1, tupO #[Value.int (-1) tS1, Value.bytes BK.toArray t8]) (List.mem_append_right _ (List.mem_append_right _ (.head _))) e.symm
        · exact fun q hq => hne q (List.mem_append_right _ (List.mem_append_left _ hq))
    case done2 =>
      rintro h5 tk5 m₅ news₅ F5 N5 ⟨hm1, hm2, hm3, hm4, hlen5, r5, o5, kvs5, hm5, rfl, hio5, hfo5, lo5, nr50, nr51, hpre5⟩
      clear F N hK hKL hKlt
      have hHalf : List.foldl (detStep xs ys zs g b) T0 (List.range 3) = (List.range (i + 1)).foldl (detHalf xs ys zs) [] := by
        rw [fold_range (detHalf xs ys zs), hD0]
        rcases hgb with ⟨rfl, rfl, rfl⟩ | ⟨rfl, rfl, rfl⟩ <;> rfl
      replace hlen5 : (List.foldl (detStep xs ys zs g b) T0 (List.range 3)).length ≤ T0.length + 3 := hlen5
      replace hfo5 : FlatPairs PyData.int kvs5 (enc (List.foldl (detStep xs ys zs g b) T0 (List.range 3))) := hfo5
      rw [hHalf] at hlen5 hfo5
      have F4 := Fr.ov (l := [(Str.ofString "rows", _), (Str.ofString "ahead", _), (Str.ofString "products", _)]) F5 (by intro p hp; simp only [List.mem_cons, List.not_mem_nil, or_false] at hp; rcases hp with rfl | rfl | rfl <;> assumption); clear F5
      k_steps
      rename Fr _ _ _ _ => F; rename News _ _ _ _ => N
      refine EndS.next [(D1, tupO #[Value.int (-1) tS1, Value.bytes BK.toArray t8]), (D0, tupO #[Value.int 1 tS0, Value.bytes AH.toArray t7]), (r5, o5)] F N (fun q hq p hp => ?_) ⟨rfl, rfl, by omega, r5, o5, kvs5, rfl, rfl, hio5, hfo5, lo5, nr50, nr51, fun _ hq => nomatch hq⟩
      simp only [List.mem_cons, List.not_mem_nil, or_false] at hp
      rcases hp with rfl | rfl | rfl
      · exact hap q hq _ (.head _)
      · exact hap q hq _ (.tail _ (.head _))
      · exact hpre5 q hq
  case done =>
    rintro h3 tk3 m₁ news₁ F3 N3 ⟨hm1, hm2, hlen, ro, o, kvs, hm3, rfl, hio, hfo, lo, nr0, nr1, hpre⟩
    replace hfo : FlatPairs PyData.int kvs (enc (detTab xs ys zs)) := hfo
    clear F N hT
    have F4 := Fr.ov (l := [(Str.ofString "products", _)]) F3 (by intro p hp; simp only [List.mem_cons, List.not_mem_nil, or_false] at hp; rcases hp with rfl <;> assumption); clear F3
    refine cOf ?_
    k_steps
    rename Fr _ _ _ _ => F; rename News _ _ _ _ => N; refine go_on ?_; refine use (count_calls_spec (hO (by exact F.keep)) (IsD.ofN N (.tail _ (.tail _ (.head _))) lo hio hfo)) F N ((hRd _).le (by decide) (by decide)) ?_
    rintro _ h8 tk8 k8 F8 N8 ⟨t8, rfl⟩
    clear F N
    k_steps
    rename Fr _ _ _ _ => F; rename News _ _ _ _ => N
    exact hQ _ _ _ F.keep ⟨_, rfl⟩
end Mine
end
section
open PySem PySem.W PyProof.Rows PySem.Calls PySem.Spec PyProof.V
open Sem (wp)
set_option maxRecDepth 100000
set_option maxHeartbeats 8000000
namespace Mine
/-- enter a def that has cells, on a clean stack -/
theorem cEnterXC {prog : Program} {w : World} {A : Around} {s : Shared} {K : Frag} {mg mb : Str → Option Value} {R : Result → Shared → Prop} {p : Program} {loose : List Str}
    {name qual : Str} {params : Arguments} {body : List Stmt} {scope : Scope} {dV kV doc pm cdv ct oc : Value} {an od : Option Addr} {osl : Array (Option Value)} {f : Addr} {args : Args}
    (X : K.In s.heap) (T : TopRead p loose mg mb s.heap) (binds : List (Str × Value))
    (ho : K.lookup f = some ⟨oc, od, .func (fnOf name qual params body scope dV kV doc pm an cdv ct), osl⟩) (hcd : codeIn K cdv qual = true) (hroom : A.depth < recursionLimit)
    (hbind : bindArgs (fnOf name qual params body scope dV kV doc pm an cdv ct) args = pure binds)
    (hkind : ∀ n, ∀ x ∈ binds, scope.names.lookup x.1 = some .local ∨ (scope.names.lookup x.1 = some .cell ∧ ((cellsFrom n scope.names []).lookup x.1).isSome = true))
    (hnd : ((cellsFrom 0 scope.names []).map (·.1)).Nodup)
    (h : ∀ h₁ tk cells, Fr s.heap s.heap.objs.size h₁ (bindL (envOfC qual scope s.heap.objs.size f cdv).kindOf binds fun _ => none) → News s.heap s.heap.objs.size h₁ cells →
      CellsAre (bindC (envOfC qual scope s.heap.objs.size f cdv).kindOf binds fun _ => none) (cellsFrom (s.heap.objs.size + 1) scope.names []) cells →
      wpC (model prog w) (A.deeper (envOfC qual scope s.heap.objs.size f cdv)) (execs body (envOfC qual scope s.heap.objs.size f cdv))
        (fun fl s' => R (.ok (.ret (match fl with | .ret v => v | _ => .none))) s') (fun _ _ => False)
        { s with heap := h₁, toks := tk })
    (hco : scope.isCoroutine = false) (hgen : scope.isGenerator = false) (hk : scope.kind = .function) : codeC (model prog w) A (.call (.ref f) args) R s := by
  have ho' := X _ _ ho
  obtain ⟨c, oc', vs, tq, hc, hoc, hdc, hq⟩ := codeRec_of X hcd
  subst hc
  refine cTree (free_call _ _) ?_
  show wpC _ A.in1 (callAny (.ref f) args) _ _ s
  simp only [callAny]
  refine cOf ?_
  refine wpAny_bind (wpAny_load ho' ?_)
  simp only [callFunction, hco, hgen]
  refine wpAny_bind (m := field (.ref c) 1) (wpAny_field hoc hdc hq (wpAny_bind (wpAny_pure ?_)))
  rw [hbind]
  refine wpAny_bind (wpAny_pure (wpAny_bind (wpAny_newFunctionEnv_cells hk (hkind _) fun env' he s' x => ?_)))
  subst he
  refine wpAny_bind (wpAny_enterFrame ((TopRead.nolimit T).keeps x.toInCall.keep) hroom (wpAny_pure (And.intro rfl (cFunc ?_))))
  obtain ⟨h₁, tk, rfl, _⟩ := x.done
  obtain ⟨cells, NC, Y⟩ := Cl.news (h₀ := s.heap) (Nat.le_refl _) fun n c hm => ⟨x.cell n c (lookup_of_mem_nodup (cellsFrom_names scope.names 0 (s.heap.objs.size + 1) [] [] rfl ▸ hnd) hm), x.above n c hm⟩
  exact h h₁ tk cells ⟨x.toInCall.ns, x.toInCall.keep, Nat.le_refl _⟩ NC Y
section
variable {M : Model} {A : Around} {E : Value → Shared → Prop} {s : Shared} {env : Env}
theorem cOr {x : PySem.Expr} {rest : List PySem.Expr} {pos : Pos} {whole : Sem Value} {Q : Bool → Shared → Prop}
    (h : wpC M A (isTrue x env (eval x env)) (fun c s' => if c then Q true s' else wpC M A (isTrue (.BoolOp .Or rest pos) env whole) Q E s') E s) :
    wpC M A (isTrue (.BoolOp .Or (x :: rest) pos) env whole) Q E s := by
  show wpC M A (do
    match BoolOp.Or, ← isTrue x env (eval x env) with
    | .And, false => pure false
    | .Or, true => pure true
    | _, _ => allTrue .Or rest env) Q E s
  refine cBind (cMono h (fun c s' h' => ?_) fun _ _ x => x)
  cases c with
  | false => exact h'
  | true => exact cPure h'
end
end Mine
end
section
open PySem PySem.W PyProof.Rows PySem.Calls PySem.Spec PyProof.V PyProof.Rows.LCg
set_option maxRecDepth 100000
set_option maxHeartbeats 8000000
namespace Mine
section
variable {prog : Program} {w : World} {A : Around} {E : Value → Shared → Prop} {s : Shared} {h₀ : Heap} {L : Addr} {m : Str → Option Value} {env : Env}
/-- a block over a tuple of the ledger -/
def SrcTp (prog : Program) (w : World) (A : Around) (h₀ : Heap) (L : Addr) (m : Str → Option Value) (env : Env) (elt : PySem.Expr) (x : Str) (scope : Scope) (cl : List (Str × Addr)) (Fin : Shared → List Value → List (Addr × Obj) → Prop) (xv : Value) (s₁ : Shared) : Prop :=
  ∃ l ol, ∃ its : Array Value, ∃ news, xv = .ref l ∧ A.handled = none ∧ Fr h₀ L s₁.heap m ∧ News h₀ L s₁.heap news ∧ (l, ol) ∈ news ∧ (∀ h : Heap, h.get? l = some ol → IsTup h l its) ∧ its.size ≤ sizeLine ∧
    ∀ g, CompRest prog w A h₀ L m env elt x scope cl { s₁ with heap := g } (fun nw => (l, ol) ∈ nw) (fun i v => its[i]? = some v) (Fin { s₁ with heap := g }) its.size 0 [] news
theorem Assign_T {elt iter : PySem.Expr} {x y : Str} {px py : Pos} {scope : Scope} {cl : List (Str × Addr)} {pos spos : Pos} {Q : Flow → Shared → Prop} (F₀ : Fr h₀ L s.heap m) (hLe : env.locals = L)
    (hsw : swapsWith (.ListComp elt [⟨.Name x px, iter, [], 0⟩] scope pos) (some (.Name y py)) spos.line env = pure true)
    (hclos : closureFor scope env = pure cl) (hcell : ∀ z ∈ scope.names, z.2 ≠ .cell) (hkind : scope.kind = .function)
    (hnames : ∀ z ∈ scope.names, z.2 = .local → scope.names.lookup z.1 = some .local) (hx : scope.names.lookup x = some .local)
    (hy : env.kindOf y = some .local) (hp : (env.scope.kind == .class || (env.scope.kind == .module && env.locals != env.globals)) = false)
    (h : wpAny (model prog w) A (eval iter env) (SrcTp prog w A h₀ L m env elt x scope cl (fun s₂ => FinA h₀ L m s₂ y Q)) E s)
    (hs : ∀ x, foldedSetIterable iter env x = pure x := by intro _; rfl) :
    wpAny (model prog w) A (exec (.Assign [.Name y py] (.ListComp elt [⟨.Name x px, iter, [], 0⟩] scope pos) spos) env) Q E s := by
  clear F₀
  subst hLe
  rw [exec_Assign_Name_used _ _ _ _ hsw]
  refine wpAny_bind (wpAny_standAt (wpAny_bind ?_))
  show wpAny _ A (do let _ ← comprehension (.ListComp elt [⟨.Name x px, iter, [], 0⟩] scope pos) scope env _ (newList []) false (eval iter env) (some (assign (.Name y py) env))) _ _ s
  refine wpAny_bind (wpAny_mono (wpAny_comprehension_free (use := some (assign (.Name y py) env)) (Q := fun _ s' => Q .next s') rfl hs hclos hkind hnames
    (wpAny_mono h (fun xv s₁ h₁ => ?_) fun _ _ e => e)) (fun _ s' hq => wpAny_pure (wpAny_pure hq)) fun _ _ e => e)
  obtain ⟨l, ol, its, news, rfl, hh, F, N, hm, hT, hsz, R⟩ := h₁
  have hl := N _ hm
  have hlt : l < s₁.heap.objs.size := Heap.lt_size hl.1
  have hne : l ≠ s₁.heap.objs.size := Nat.ne_of_lt hlt
  refine wpAny_pyIter_tuple (hT _ hl.1) ?_
  refine block_U (S := fun nw => (l, ol) ∈ nw) (Walks.tuple hh s₁.heap.objs.size l hne its) hsz (fun i h st => ?_) (fun i h h' o nw st e e' _ N' hS => ?_) hcell hkind hx ?_ (fun b hb => ?_)
    (F.keeps fun _ _ e => Heap.get?_push_of_some _ e) (N.grown fun _ _ e => Heap.get?_push_of_some _ e) (Nat.ne_of_lt F.ns.lt) (next_is_new F) (fun p hp => Nat.ne_of_lt (Heap.lt_size (N p hp).1)) hm (R _) ?_
  · obtain ⟨⟨oi, he, _⟩, _⟩ := st
    exact ⟨oi, he⟩
  · obtain ⟨⟨oi, he, hc, hd⟩, _⟩ := st
    rw [e] at he
    cases he
    exact ⟨⟨_, e', hc, hd⟩, hT _ (N' _ hS).1⟩
  · exact ⟨⟨_, Heap.get?_push_size _ rfl, rfl, rfl⟩, IsTup.keeps (hT _ hl.1) fun b o e => Heap.get?_push_of_some _ e⟩
  · show b < (s₁.heap.push _).objs.size
    rw [Heap.size_push]
    rcases List.mem_cons.mp hb with rfl | hb
    · exact Nat.lt_succ_self _
    · rw [List.mem_singleton.mp hb]; exact Nat.lt_succ_of_lt hlt
  · intro D C h' tk m' ys news' F' N' o1 hn hC₀ hD₀ hCL hDL hCD offC fin
    show wpAny _ A (assign (.Name y py) env (.ref D)) _ _ _
    have hL₀ : h₀.get? env.locals = none := Heap.get?_none_of_le F'.above
    refine wpAny_assign_Name (wpAny_storeName_local hy F'.ns (fun h₂ hn₂ hs₂ => ?_) hp)
    have F₂ : Fr h₀ env.locals h₂ (fun z => if z = y then some (.ref D) else m z) := ⟨hn₂, fun b o e => hs₂.extBut b o (fun q => by rw [q, hL₀] at e; cases e) (F'.keep b o e), F'.above⟩
    refine ⟨m', hn.sameBut hs₂ hCL, fun h'' hs'' => fin D h'' _ (F₂.change hs'' hCL hC₀) (fun p hp => ?_) o1⟩
    have hne' : p.1 ≠ C := by
      rcases List.mem_cons.mp hp with rfl | hp
      · exact Ne.symm hCD
      · exact offC p hp
    exact ⟨hs''.extBut _ _ hne' (hs₂.extBut _ _ (N' p hp).2.1 (N' p hp).1), (N' p hp).2⟩
theorem elt_end {s₁ : Shared} {I C D l : Addr} {oI oC oD o : Obj} {S : List (Addr × Obj) → Prop} {T : Value → List (Addr × Obj) → Prop} {y : Value} {h' : Heap} {tk : Nat} {news : List (Addr × Obj)} (F : Fr h₀ L h' m) (N : News h₀ L h' ((l, o) :: (I, oI) :: (C, oC) :: (D, oD) :: news))
    (off : Off3 I C D news) (hI : I < l) (hC : C < l) (hD : D < l) (hS : S ((l, o) :: news)) (rest : T y ((l, o) :: news)) : CompEnd h₀ L m s₁ I oI C oC D oD S T y { s₁ with heap := h', toks := tk } := by
  refine ⟨h', tk, (l, o) :: news, rfl, F, fun p hp => N p ?_, Off3.of fun p hp => ?_, hS, rest⟩
  · simp only [List.mem_cons] at hp ⊢
    rcases hp with hp | hp | hp | hp | hp
    · exact .inr (.inl hp)
    · exact .inr (.inr (.inl hp))
    · exact .inr (.inr (.inr (.inl hp)))
    · exact .inl hp
    · exact .inr (.inr (.inr (.inr hp)))
  · rcases List.mem_cons.mp hp with rfl | hp
    · exact ⟨Nat.ne_of_gt hI, Nat.ne_of_gt hC, Nat.ne_of_gt hD⟩
    · exact off.mem p hp
/-- a block over a dict of ints of the ledger -/
def SrcDk (w : World) (A : Around) (h₀ : Heap) (L : Addr) (m : Str → Option Value) (env : Env) (elt : PySem.Expr) (x : Str) (scope : Scope) (cl : List (Str × Addr)) (Fin : Shared → List Value → List (Addr × Obj) → Prop) (xv : Value) (s₁ : Shared) : Prop :=
  ∃ d o kvs D, ∃ news, xv = .ref d ∧ A.handled = none ∧ Fr h₀ L s₁.heap m ∧ News h₀ L s₁.heap news ∧ (d, o) ∈ news ∧ o.IsDictOf (IK w) kvs ∧ FlatPairs PyData.int kvs (enc D) ∧ (d == sysModules) = false ∧ D.length ≤ sizeLine ∧
    ∀ g, CompRest PySem.Challenge.rw_xp0024_01.row.prog w A h₀ L m env elt x scope cl { s₁ with heap := g } (fun nw => (d, o) ∈ nw) (fun i v => ∃ k u t, D[i]? = some (k, u) ∧ v = .int k t) (Fin { s₁ with heap := g }) D.length 0 [] news
theorem ListComp_D {elt iter : PySem.Expr} {x : Str} {px : Pos} {scope : Scope} {cl : List (Str × Addr)} {pos : Pos} {Q : Value → Shared → Prop}
    (hclos : closureFor scope env = pure cl) (hcell : ∀ y ∈ scope.names, y.2 ≠ .cell) (hkind : scope.kind = .function)
    (hnames : ∀ y ∈ scope.names, y.2 = .local → scope.names.lookup y.1 = some .local) (hx : scope.names.lookup x = some .local)
    (h : wpAny (model PySem.Challenge.rw_xp0024_01.row.prog w) A (eval iter env) (SrcDk w A h₀ L m env elt x scope cl (fun s₂ => FinE h₀ L m s₂ Q)) E s)
    (hs : ∀ x, foldedSetIterable iter env x = pure x := by intro _; rfl) :
    wpAny (model PySem.Challenge.rw_xp0024_01.row.prog w) A (eval (.ListComp elt [⟨.Name x px, iter, [], 0⟩] scope pos) env) Q E s := by
  rw [eval_ListComp]
  refine wpAny_comprehension_free (use := none) rfl hs hclos hkind hnames (wpAny_mono h (fun xv s₁ h₁ => ?_) fun _ _ e => e)
  obtain ⟨d, o, kvs, D, news, rfl, hh, F, N, hm, hio, hfo, lo, hsz, R⟩ := h₁
  have hl := N _ hm
  have hlt : d < s₁.heap.objs.size := Heap.lt_size hl.1
  have hne : d ≠ s₁.heap.objs.size := Nat.ne_of_lt hlt
  have hlen : kvs.length = D.length := by have := hfo.length; unfold enc at this; rw [List.length_map] at this; exact this.symm
  obtain ⟨ep, hat⟩ := (Heap.dictOf_iff.mpr ⟨o, hl.1, hio⟩).dictAt
  have hall : ∀ h : Heap, h.get? d = some o → h.DictAt (IK w) d kvs ep := by
    obtain ⟨o', es, ho, hc, hdat, hk, hp, hn⟩ := hat
    have e : o' = o := by have := hl.1; rw [ho] at this; exact Option.some.inj this
    subst e
    exact fun h e => ⟨o', es, e, hc, hdat, hk, hp, hn⟩
  refine wpAny_pyIter_dict lo hat ?_
  rw [← hlen] at hsz R
  refine block_U (S := fun nw => (d, o) ∈ nw) ((Walks.dictKeys (knd := IK w) hh s₁.heap.objs.size d hne kvs ep).weaken (P' := fun i v => ∃ k u t, D[i]? = some (k, u) ∧ v = .int k t) ?_) hsz (fun i h st => ?_) (fun i h h' o' nw st e e' _ N' hS => ?_) hcell hkind hx ?_ (fun b hb => ?_)
    (F.keeps fun _ _ e => Heap.get?_push_of_some _ e) (N.grown fun _ _ e => Heap.get?_push_of_some _ e) (Nat.ne_of_lt F.ns.lt) (next_is_new F) (fun p hp => Nat.ne_of_lt (Heap.lt_size (N p hp).1)) hm (R _) ?_
  · rintro i v ⟨k, xv, hx, hk⟩
    obtain ⟨v', u, hD', rfl⟩ := flat_at hfo hx
    obtain ⟨t, rfl⟩ := Value.isInt_shape (k := k) hk
    exact ⟨k, v', t, hD', rfl⟩
  · obtain ⟨⟨oi, he, _⟩, _⟩ := st
    exact ⟨oi, he⟩
  · obtain ⟨⟨oi, he, hc, hd⟩, _⟩ := st
    rw [e] at he
    cases he
    exact ⟨⟨_, e', hc, hd⟩, hall _ (N' _ hS).1⟩
  · exact ⟨⟨_, Heap.get?_push_size _ rfl, rfl, rfl⟩, hall _ (Heap.get?_push_of_some _ hl.1)⟩
  · show b < (s₁.heap.push _).objs.size
    rw [Heap.size_push]
    rcases List.mem_cons.mp hb with rfl | hb
    · exact Nat.lt_succ_self _
    · rw [List.mem_singleton.mp hb]; exact Nat.lt_succ_of_lt hlt
  · intro D C h tk m' ys news' F' N' o1 hn hC₀ hD₀ hCL hDL hCD offC fin
    refine ⟨m', hn, fun h'' hs'' => fin D h'' tk (F'.change hs'' hCL hC₀) (fun p hp => ?_) o1⟩
    refine ⟨hs''.extBut _ _ ?_ (N' p hp).1, (N' p hp).2⟩
    rcases List.mem_cons.mp hp with rfl | hp
    · exact Ne.symm hCD
    · exact offC p hp
end
end Mine
end
section
open PySem PySem.W PyProof.Rows PySem.Calls PySem.Spec PyProof.V
set_option maxRecDepth 100000
set_option maxHeartbeats 8000000
namespace Mine
def hs (x y z : Int) : List Int := [x, y, z].foldl alikeOne [1, 0, 0, 0, 0, 0]
def es (x y z : Int) : List Int := [x, y, z].foldl unlikeOne [1, 0, 0, 0, 0, 0]
def cI (k a b c : Int) : Int := (if k ≤ a then 1 else 0) + (if k ≤ b then 1 else 0) + (if k ≤ c then 1 else 0)
def colsI (a b c : Int) : List Int := [cI 1 a b c, cI 2 a b c, cI 3 a b c]
theorem q4 {r : Int} (h : 0 ≤ r) (h' : r ≤ 3) : r = 0 ∨ r = 1 ∨ r = 2 ∨ r = 3 := by omega
def pwRow (x a b c : Int) : List Int := [x ^ (a + 2).toNat, x ^ (b + 1).toNat, x ^ c.toNat]
theorem wv000 (x y z : Int) : worthOf [x, y, z] (fillings 0 0 0) = (1*x^0*y^0*z^0+0) := by kernel_rfl
theorem hv000 (x y z : Int) : sumv (detTab (row (hs x y z) 0 0) (row (hs x y z) 0 1) (row (hs x y z) 0 2)) = (1*1*1*1+(1*(((0+x*1)+y*1)+z*1)*(((0+x*1)+y*1)+z*1)*0+(1*0*(((0+x*(0+x*1))+y*((0+x*1)+y*1))+z*(((0+x*1)+y*1)+z*1))*0+((-1)*1*(((0+x*(0+x*1))+y*((0+x*1)+y*1))+z*(((0+x*1)+y*1)+z*1))*0+((-1)*(((0+x*1)+y*1)+z*1)*1*0+((-1)*0*(((0+x*1)+y*1)+z*1)*1+0)))))) := by kernel_rfl
theorem hi000 (x y z : Int) : (1*1*1*1+(1*(((0+x*1)+y*1)+z*1)*(((0+x*1)+y*1)+z*1)*0+(1*0*(((0+x*(0+x*1))+y*((0+x*1)+y*1))+z*(((0+x*1)+y*1)+z*1))*0+((-1)*1*(((0+x*(0+x*1))+y*((0+x*1)+y*1))+z*(((0+x*1)+y*1)+z*1))*0+((-1)*(((0+x*1)+y*1)+z*1)*1*0+((-1)*0*(((0+x*1)+y*1)+z*1)*1+0)))))) = (1*x^0*y^0*z^0+0) := by grind
theorem ev000 (x y z : Int) : sumv (detTab (row (es x y z) 0 0) (row (es x y z) 0 1) (row (es x y z) 0 2)) = (1*1*1*1+(1*(((0+x*1)+y*1)+z*1)*(((0+x*1)+y*1)+z*1)*0+(1*0*(((0+x*0)+y*(0+x*1))+z*((0+x*1)+y*1))*0+((-1)*1*(((0+x*0)+y*(0+x*1))+z*((0+x*1)+y*1))*0+((-1)*(((0+x*1)+y*1)+z*1)*1*0+((-1)*0*(((0+x*1)+y*1)+z*1)*1+0)))))) := by kernel_rfl
theorem ei000 (x y z : Int) : (1*1*1*1+(1*(((0+x*1)+y*1)+z*1)*(((0+x*1)+y*1)+z*1)*0+(1*0*(((0+x*0)+y*(0+x*1))+z*((0+x*1)+y*1))*0+((-1)*1*(((0+x*0)+y*(0+x*1))+z*((0+x*1)+y*1))*0+((-1)*(((0+x*1)+y*1)+z*1)*1*0+((-1)*0*(((0+x*1)+y*1)+z*1)*1+0)))))) = (1*x^0*y^0*z^0+0) := by grind
theorem vv000 (x y z : Int) : sumv (detTab (pwRow x 0 0 0) (pwRow y 0 0 0) (pwRow z 0 0 0)) = (1*y^1*x^2*z^0+(1*y^0*x^1*z^2+(1*y^2*x^0*z^1+((-1)*y^1*x^0*z^2+((-1)*y^0*x^2*z^1+((-1)*y^2*x^1*z^0+0)))))) := by kernel_rfl
theorem vi000 (x y z : Int) : (1*y^1*x^2*z^0+(1*y^0*x^1*z^2+(1*y^2*x^0*z^1+((-1)*y^1*x^0*z^2+((-1)*y^0*x^2*z^1+((-1)*y^2*x^1*z^0+0)))))) = (1*x^0*y^0*z^0+0)*(x-y)*(x-z)*(y-z) := by grind
theorem wv100 (x y z : Int) : worthOf [x, y, z] (fillings 1 0 0) = (1*x^0*y^0*z^1+(1*x^0*y^1*z^0+(1*x^1*y^0*z^0+0))) := by kernel_rfl
theorem hv100 (x y z : Int) : sumv (detTab (row (hs x y z) 1 0) (row (hs x y z) 0 1) (row (hs x y z) 0 2)) = (1*1*(((0+x*1)+y*1)+z*1)*1+(1*(((0+x*1)+y*1)+z*1)*(((0+x*(0+x*1))+y*((0+x*1)+y*1))+z*(((0+x*1)+y*1)+z*1))*0+(1*0*(((0+x*(0+x*(0+x*1)))+y*((0+x*(0+x*1))+y*((0+x*1)+y*1)))+z*(((0+x*(0+x*1))+y*((0+x*1)+y*1))+z*(((0+x*1)+y*1)+z*1)))*0+((-1)*1*(((0+x*(0+x*(0+x*1)))+y*((0+x*(0+x*1))+y*((0+x*1)+y*1)))+z*(((0+x*(0+x*1))+y*((0+x*1)+y*1))+z*(((0+x*1)+y*1)+z*1)))*0+((-1)*(((0+x*1)+y*1)+z*1)*(((0+x*1)+y*1)+z*1)*0+((-1)*0*(((0+x*(0+x*1))+y*((0+x*1)+y*1))+z*(((0+x*1)+y*1)+z*1))*1+0)))))) := by kernel_rfl
theorem hi100 (x y z : Int) : (1*1*(((0+x*1)+y*1)+z*1)*1+(1*(((0+x*1)+y*1)+z*1)*(((0+x*(0+x*1))+y*((0+x*1)+y*1))+z*(((0+x*1)+y*1)+z*1))*0+(1*0*(((0+x*(0+x*(0+x*1)))+y*((0+x*(0+x*1))+y*((0+x*1)+y*1)))+z*(((0+x*(0+x*1))+y*((0+x*1)+y*1))+z*(((0+x*1)+y*1)+z*1)))*0+((-1)*1*(((0+x*(0+x*(0+x*1)))+y*((0+x*(0+x*1))+y*((0+x*1)+y*1)))+z*(((0+x*(0+x*1))+y*((0+x*1)+y*1))+z*(((0+x*1)+y*1)+z*1)))*0+((-1)*(((0+x*1)+y*1)+z*1)*(((0+x*1)+y*1)+z*1)*0+((-1)*0*(((0+x*(0+x*1))+y*((0+x*1)+y*1))+z*(((0+x*1)+y*1)+z*1))*1+0)))))) = (1*x^0*y^0*z^1+(1*x^0*y^1*z^0+(1*x^1*y^0*z^0+0))) := by grind
theorem ev100 (x y z : Int) : sumv (detTab (row (es x y z) 1 0) (row (es x y z) 0 1) (row (es x y z) 0 2)) = (1*1*(((0+x*1)+y*1)+z*1)*1+(1*(((0+x*1)+y*1)+z*1)*(((0+x*0)+y*(0+x*1))+z*((0+x*1)+y*1))*0+(1*0*(((0+x*0)+y*(0+x*0))+z*((0+x*0)+y*(0+x*1)))*0+((-1)*1*(((0+x*0)+y*(0+x*0))+z*((0+x*0)+y*(0+x*1)))*0+((-1)*(((0+x*1)+y*1)+z*1)*(((0+x*1)+y*1)+z*1)*0+((-1)*0*(((0+x*0)+y*(0+x*1))+z*((0+x*1)+y*1))*1+0)))))) := by kernel_rfl
theorem ei100 (x y z : Int) : (1*1*(((0+x*1)+y*1)+z*1)*1+(1*(((0+x*1)+y*1)+z*1)*(((0+x*0)+y*(0+x*1))+z*((0+x*1)+y*1))*0+(1*0*(((0+x*0)+y*(0+x*0))+z*((0+x*0)+y*(0+x*1)))*0+((-1)*1*(((0+x*0)+y*(0+x*0))+z*((0+x*0)+y*(0+x*1)))*0+((-1)*(((0+x*1)+y*1)+z*1)*(((0+x*1)+y*1)+z*1)*0+((-1)*0*(((0+x*0)+y*(0+x*1))+z*((0+x*1)+y*1))*1+0)))))) = (1*x^0*y^0*z^1+(1*x^0*y^1*z^0+(1*x^1*y^0*z^0+0))) := by grind
theorem vv100 (x y z : Int) : sumv (detTab (pwRow x 1 0 0) (pwRow y 1 0 0) (pwRow z 1 0 0)) = (1*y^1*x^3*z^0+(1*y^0*x^1*z^3+(1*y^3*x^0*z^1+((-1)*y^1*x^0*z^3+((-1)*y^0*x^3*z^1+((-1)*y^3*x^1*z^0+0)))))) := by kernel_rfl
theorem vi100 (x y z : Int) : (1*y^1*x^3*z^0+(1*y^0*x^1*z^3+(1*y^3*x^0*z^1+((-1)*y^1*x^0*z^3+((-1)*y^0*x^3*z^1+((-1)*y^3*x^1*z^0+0)))))) = (1*x^0*y^0*z^1+(1*x^0*y^1*z^0+(1*x^1*y^0*z^0+0)))*(x-y)*(x-z)*(y-z) := by grind
theorem wv110 (x y z : Int) : worthOf [x, y, z] (fillings 1 1 0) = (1*x^0*y^1*z^1+(1*x^1*y^0*z^1+(1*x^1*y^1*z^0+0))) := by kernel_rfl
theorem hv110 (x y z : Int) : sumv (detTab (row (hs x y z) 1 0) (row (hs x y z) 1 1) (row (hs x y z) 0 2)) = (1*(((0+x*1)+y*1)+z*1)*(((0+x*1)+y*1)+z*1)*1+(1*(((0+x*(0+x*1))+y*((0+x*1)+y*1))+z*(((0+x*1)+y*1)+z*1))*(((0+x*(0+x*1))+y*((0+x*1)+y*1))+z*(((0+x*1)+y*1)+z*1))*0+(1*1*(((0+x*(0+x*(0+x*1)))+y*((0+x*(0+x*1))+y*((0+x*1)+y*1)))+z*(((0+x*(0+x*1))+y*((0+x*1)+y*1))+z*(((0+x*1)+y*1)+z*1)))*0+((-1)*(((0+x*1)+y*1)+z*1)*(((0+x*(0+x*(0+x*1)))+y*((0+x*(0+x*1))+y*((0+x*1)+y*1)))+z*(((0+x*(0+x*1))+y*((0+x*1)+y*1))+z*(((0+x*1)+y*1)+z*1)))*0+((-1)*(((0+x*(0+x*1))+y*((0+x*1)+y*1))+z*(((0+x*1)+y*1)+z*1))*(((0+x*1)+y*1)+z*1)*0+((-1)*1*(((0+x*(0+x*1))+y*((0+x*1)+y*1))+z*(((0+x*1)+y*1)+z*1))*1+0)))))) := by kernel_rfl
theorem hi110 (x y z : Int) : (1*(((0+x*1)+y*1)+z*1)*(((0+x*1)+y*1)+z*1)*1+(1*(((0+x*(0+x*1))+y*((0+x*1)+y*1))+z*(((0+x*1)+y*1)+z*1))*(((0+x*(0+x*1))+y*((0+x*1)+y*1))+z*(((0+x*1)+y*1)+z*1))*0+(1*1*(((0+x*(0+x*(0+x*1)))+y*((0+x*(0+x*1))+y*((0+x*1)+y*1)))+z*(((0+x*(0+x*1))+y*((0+x*1)+y*1))+z*(((0+x*1)+y*1)+z*1)))*0+((-1)*(((0+x*1)+y*1)+z*1)*(((0+x*(0+x*(0+x*1)))+y*((0+x*(0+x*1))+y*((0+x*1)+y*1)))+z*(((0+x*(0+x*1))+y*((0+x*1)+y*1))+z*(((0+x*1)+y*1)+z*1)))*0+((-1)*(((0+x*(0+x*1))+y*((0+x*1)+y*1))+z*(((0+x*1)+y*1)+z*1))*(((0+x*1)+y*1)+z*1)*0+((-1)*1*(((0+x*(0+x*1))+y*((0+x*1)+y*1))+z*(((0+x*1)+y*1)+z*1))*1+0)))))) = (1*x^0*y^1*z^1+(1*x^1*y^0*z^1+(1*x^1*y^1*z^0+0))) := by grind
theorem ev110 (x y z : Int) : sumv (detTab (row (es x y z) 2 0) (row (es x y z) 0 1) (row (es x y z) 0 2)) = (1*1*(((0+x*0)+y*(0+x*1))+z*((0+x*1)+y*1))*1+(1*(((0+x*1)+y*1)+z*1)*(((0+x*0)+y*(0+x*0))+z*((0+x*0)+y*(0+x*1)))*0+(1*0*0*0+((-1)*1*0*0+((-1)*(((0+x*1)+y*1)+z*1)*(((0+x*0)+y*(0+x*1))+z*((0+x*1)+y*1))*0+((-1)*0*(((0+x*0)+y*(0+x*0))+z*((0+x*0)+y*(0+x*1)))*1+0)))))) := by kernel_rfl
theorem ei110 (x y z : Int) : (1*1*(((0+x*0)+y*(0+x*1))+z*((0+x*1)+y*1))*1+(1*(((0+x*1)+y*1)+z*1)*(((0+x*0)+y*(0+x*0))+z*((0+x*0)+y*(0+x*1)))*0+(1*0*0*0+((-1)*1*0*0+((-1)*(((0+x*1)+y*1)+z*1)*(((0+x*0)+y*(0+x*1))+z*((0+x*1)+y*1))*0+((-1)*0*(((0+x*0)+y*(0+x*0))+z*((0+x*0)+y*(0+x*1)))*1+0)))))) = (1*x^0*y^1*z^1+(1*x^1*y^0*z^1+(1*x^1*y^1*z^0+0))) := by grind
theorem vv110 (x y z : Int) : sumv (detTab (pwRow x 1 1 0) (pwRow y 1 1 0) (pwRow z 1 1 0)) = (1*y^2*x^3*z^0+(1*y^0*x^2*z^3+(1*y^3*x^0*z^2+((-1)*y^2*x^0*z^3+((-1)*y^0*x^3*z^2+((-1)*y^3*x^2*z^0+0)))))) := by kernel_rfl
theorem vi110 (x y z : Int) : (1*y^2*x^3*z^0+(1*y^0*x^2*z^3+(1*y^3*x^0*z^2+((-1)*y^2*x^0*z^3+((-1)*y^0*x^3*z^2+((-1)*y^3*x^2*z^0+0)))))) = (1*x^0*y^1*z^1+(1*x^1*y^0*z^1+(1*x^1*y^1*z^0+0)))*(x-y)*(x-z)*(y-z) := by grind
theorem wv111 (x y z : Int) : worthOf [x, y, z] (fillings 1 1 1) = (1*x^1*y^1*z^1+0) := by kernel_rfl
theorem hv111 (x y z : Int) : sumv (detTab (row (hs x y z) 1 0) (row (hs x y z) 1 1) (row (hs x y z) 1 2)) = (1*(((0+x*1)+y*1)+z*1)*(((0+x*1)+y*1)+z*1)*(((0+x*1)+y*1)+z*1)+(1*(((0+x*(0+x*1))+y*((0+x*1)+y*1))+z*(((0+x*1)+y*1)+z*1))*(((0+x*(0+x*1))+y*((0+x*1)+y*1))+z*(((0+x*1)+y*1)+z*1))*0+(1*1*(((0+x*(0+x*(0+x*1)))+y*((0+x*(0+x*1))+y*((0+x*1)+y*1)))+z*(((0+x*(0+x*1))+y*((0+x*1)+y*1))+z*(((0+x*1)+y*1)+z*1)))*1+((-1)*(((0+x*1)+y*1)+z*1)*(((0+x*(0+x*(0+x*1)))+y*((0+x*(0+x*1))+y*((0+x*1)+y*1)))+z*(((0+x*(0+x*1))+y*((0+x*1)+y*1))+z*(((0+x*1)+y*1)+z*1)))*0+((-1)*(((0+x*(0+x*1))+y*((0+x*1)+y*1))+z*(((0+x*1)+y*1)+z*1))*(((0+x*1)+y*1)+z*1)*1+((-1)*1*(((0+x*(0+x*1))+y*((0+x*1)+y*1))+z*(((0+x*1)+y*1)+z*1))*(((0+x*1)+y*1)+z*1)+0)))))) := by kernel_rfl
theorem hi111 (x y z : Int) : (1*(((0+x*1)+y*1)+z*1)*(((0+x*1)+y*1)+z*1)*(((0+x*1)+y*1)+z*1)+(1*(((0+x*(0+x*1))+y*((0+x*1)+y*1))+z*(((0+x*1)+y*1)+z*1))*(((0+x*(0+x*1))+y*((0+x*1)+y*1))+z*(((0+x*1)+y*1)+z*1))*0+(1*1*(((0+x*(0+x*(0+x*1)))+y*((0+x*(0+x*1))+y*((0+x*1)+y*1)))+z*(((0+x*(0+x*1))+y*((0+x*1)+y*1))+z*(((0+x*1)+y*1)+z*1)))*1+((-1)*(((0+x*1)+y*1)+z*1)*(((0+x*(0+x*(0+x*1)))+y*((0+x*(0+x*1))+y*((0+x*1)+y*1)))+z*(((0+x*(0+x*1))+y*((0+x*1)+y*1))+z*(((0+x*1)+y*1)+z*1)))*0+((-1)*(((0+x*(0+x*1))+y*((0+x*1)+y*1))+z*(((0+x*1)+y*1)+z*1))*(((0+x*1)+y*1)+z*1)*1+((-1)*1*(((0+x*(0+x*1))+y*((0+x*1)+y*1))+z*(((0+x*1)+y*1)+z*1))*(((0+x*1)+y*1)+z*1)+0)))))) = (1*x^1*y^1*z^1+0) := by grind
theorem ev111 (x y z : Int) : sumv (detTab (row (es x y z) 3 0) (row (es x y z) 0 1) (row (es x y z) 0 2)) = (1*1*(((0+x*0)+y*(0+x*0))+z*((0+x*0)+y*(0+x*1)))*1+(1*(((0+x*1)+y*1)+z*1)*0*0+(1*0*0*0+((-1)*1*0*0+((-1)*(((0+x*1)+y*1)+z*1)*(((0+x*0)+y*(0+x*0))+z*((0+x*0)+y*(0+x*1)))*0+((-1)*0*0*1+0)))))) := by kernel_rfl
theorem ei111 (x y z : Int) : (1*1*(((0+x*0)+y*(0+x*0))+z*((0+x*0)+y*(0+x*1)))*1+(1*(((0+x*1)+y*1)+z*1)*0*0+(1*0*0*0+((-1)*1*0*0+((-1)*(((0+x*1)+y*1)+z*1)*(((0+x*0)+y*(0+x*0))+z*((0+x*0)+y*(0+x*1)))*0+((-1)*0*0*1+0)))))) = (1*x^1*y^1*z^1+0) := by grind
theorem vv111 (x y z : Int) : sumv (detTab (pwRow x 1 1 1) (pwRow y 1 1 1) (pwRow z 1 1 1)) = (1*y^2*x^3*z^1+(1*y^1*x^2*z^3+(1*y^3*x^1*z^2+((-1)*y^2*x^1*z^3+((-1)*y^1*x^3*z^2+((-1)*y^3*x^2*z^1+0)))))) := by kernel_rfl
theorem vi111 (x y z : Int) : (1*y^2*x^3*z^1+(1*y^1*x^2*z^3+(1*y^3*x^1*z^2+((-1)*y^2*x^1*z^3+((-1)*y^1*x^3*z^2+((-1)*y^3*x^2*z^1+0)))))) = (1*x^1*y^1*z^1+0)*(x-y)*(x-z)*(y-z) := by grind
theorem wv200 (x y z : Int) : worthOf [x, y, z] (fillings 2 0 0) = (1*x^0*y^0*z^2+(1*x^0*y^1*z^1+(1*x^1*y^0*z^1+(1*x^0*y^2*z^0+(1*x^1*y^1*z^0+(1*x^2*y^0*z^0+0)))))) := by kernel_rfl
theorem hv200 (x y z : Int) : sumv (detTab (row (hs x y z) 2 0) (row (hs x y z) 0 1) (row (hs x y z) 0 2)) = (1*1*(((0+x*(0+x*1))+y*((0+x*1)+y*1))+z*(((0+x*1)+y*1)+z*1))*1+(1*(((0+x*1)+y*1)+z*1)*(((0+x*(0+x*(0+x*1)))+y*((0+x*(0+x*1))+y*((0+x*1)+y*1)))+z*(((0+x*(0+x*1))+y*((0+x*1)+y*1))+z*(((0+x*1)+y*1)+z*1)))*0+(1*0*(((0+x*(0+x*(0+x*(0+x*1))))+y*((0+x*(0+x*(0+x*1)))+y*((0+x*(0+x*1))+y*((0+x*1)+y*1))))+z*(((0+x*(0+x*(0+x*1)))+y*((0+x*(0+x*1))+y*((0+x*1)+y*1)))+z*(((0+x*(0+x*1))+y*((0+x*1)+y*1))+z*(((0+x*1)+y*1)+z*1))))*0+((-1)*1*(((0+x*(0+x*(0+x*(0+x*1))))+y*((0+x*(0+x*(0+x*1)))+y*((0+x*(0+x*1))+y*((0+x*1)+y*1))))+z*(((0+x*(0+x*(0+x*1)))+y*((0+x*(0+x*1))+y*((0+x*1)+y*1)))+z*(((0+x*(0+x*1))+y*((0+x*1)+y*1))+z*(((0+x*1)+y*1)+z*1))))*0+((-1)*(((0+x*1)+y*1)+z*1)*(((0+x*(0+x*1))+y*((0+x*1)+y*1))+z*(((0+x*1)+y*1)+z*1))*0+((-1)*0*(((0+x*(0+x*(0+x*1)))+y*((0+x*(0+x*1))+y*((0+x*1)+y*1)))+z*(((0+x*(0+x*1))+y*((0+x*1)+y*1))+z*(((0+x*1)+y*1)+z*1)))*1+0)))))) := by kernel_rfl
theorem hi200 (x y z : Int) : (1*1*(((0+x*(0+x*1))+y*((0+x*1)+y*1))+z*(((0+x*1)+y*1)+z*1))*1+(1*(((0+x*1)+y*1)+z*1)*(((0+x*(0+x*(0+x*1)))+y*((0+x*(0+x*1))+y*((0+x*1)+y*1)))+z*(((0+x*(0+x*1))+y*((0+x*1)+y*1))+z*(((0+x*1)+y*1)+z*1)))*0+(1*0*(((0+x*(0+x*(0+x*(0+x*1))))+y*((0+x*(0+x*(0+x*1)))+y*((0+x*(0+x*1))+y*((0+x*1)+y*1))))+z*(((0+x*(0+x*(0+x*1)))+y*((0+x*(0+x*1))+y*((0+x*1)+y*1)))+z*(((0+x*(0+x*1))+y*((0+x*1)+y*1))+z*(((0+x*1)+y*1)+z*1))))*0+((-1)*1*(((0+x*(0+x*(0+x*(0+x*1))))+y*((0+x*(0+x*(0+x*1)))+y*((0+x*(0+x*1))+y*((0+x*1)+y*1))))+z*(((0+x*(0+x*(0+x*1)))+y*((0+x*(0+x*1))+y*((0+x*1)+y*1)))+z*(((0+x*(0+x*1))+y*((0+x*1)+y*1))+z*(((0+x*1)+y*1)+z*1))))*0+((-1)*(((0+x*1)+y*1)+z*1)*(((0+x*(0+x*1))+y*((0+x*1)+y*1))+z*(((0+x*1)+y*1)+z*1))*0+((-1)*0*(((0+x*(0+x*(0+x*1)))+y*((0+x*(0+x*1))+y*((0+x*1)+y*1)))+z*(((0+x*(0+x*1))+y*((0+x*1)+y*1))+z*(((0+x*1)+y*1)+z*1)))*1+0)))))) = (1*x^0*y^0*z^2+(1*x^0*y^1*z^1+(1*x^1*y^0*z^1+(1*x^0*y^2*z^0+(1*x^1*y^1*z^0+(1*x^2*y^0*z^0+0)))))) := by grind
theorem ev200 (x y z : Int) : sumv (detTab (row (es x y z) 1 0) (row (es x y z) 1 1) (row (es x y z) 0 2)) = (1*(((0+x*1)+y*1)+z*1)*(((0+x*1)+y*1)+z*1)*1+(1*(((0+x*0)+y*(0+x*1))+z*((0+x*1)+y*1))*(((0+x*0)+y*(0+x*1))+z*((0+x*1)+y*1))*0+(1*1*(((0+x*0)+y*(0+x*0))+z*((0+x*0)+y*(0+x*1)))*0+((-1)*(((0+x*1)+y*1)+z*1)*(((0+x*0)+y*(0+x*0))+z*((0+x*0)+y*(0+x*1)))*0+((-1)*(((0+x*0)+y*(0+x*1))+z*((0+x*1)+y*1))*(((0+x*1)+y*1)+z*1)*0+((-1)*1*(((0+x*0)+y*(0+x*1))+z*((0+x*1)+y*1))*1+0)))))) := by kernel_rfl
theorem ei200 (x y z : Int) : (1*(((0+x*1)+y*1)+z*1)*(((0+x*1)+y*1)+z*1)*1+(1*(((0+x*0)+y*(0+x*1))+z*((0+x*1)+y*1))*(((0+x*0)+y*(0+x*1))+z*((0+x*1)+y*1))*0+(1*1*(((0+x*0)+y*(0+x*0))+z*((0+x*0)+y*(0+x*1)))*0+((-1)*(((0+x*1)+y*1)+z*1)*(((0+x*0)+y*(0+x*0))+z*((0+x*0)+y*(0+x*1)))*0+((-1)*(((0+x*0)+y*(0+x*1))+z*((0+x*1)+y*1))*(((0+x*1)+y*1)+z*1)*0+((-1)*1*(((0+x*0)+y*(0+x*1))+z*((0+x*1)+y*1))*1+0)))))) = (1*x^0*y^0*z^2+(1*x^0*y^1*z^1+(1*x^1*y^0*z^1+(1*x^0*y^2*z^0+(1*x^1*y^1*z^0+(1*x^2*y^0*z^0+0)))))) := by grind
theorem vv200 (x y z : Int) : sumv (detTab (pwRow x 2 0 0) (pwRow y 2 0 0) (pwRow z 2 0 0)) = (1*y^1*x^4*z^0+(1*y^0*x^1*z^4+(1*y^4*x^0*z^1+((-1)*y^1*x^0*z^4+((-1)*y^0*x^4*z^1+((-1)*y^4*x^1*z^0+0)))))) := by kernel_rfl
theorem vi200 (x y z : Int) : (1*y^1*x^4*z^0+(1*y^0*x^1*z^4+(1*y^4*x^0*z^1+((-1)*y^1*x^0*z^4+((-1)*y^0*x^4*z^1+((-1)*y^4*x^1*z^0+0)))))) = (1*x^0*y^0*z^2+(1*x^0*y^1*z^1+(1*x^1*y^0*z^1+(1*x^0*y^2*z^0+(1*x^1*y^1*z^0+(1*x^2*y^0*z^0+0))))))*(x-y)*(x-z)*(y-z) := by grind
theorem wv210 (x y z : Int) : worthOf [x, y, z] (fillings 2 1 0) = (1*x^0*y^1*z^2+(1*x^1*y^0*z^2+(2*x^1*y^1*z^1+(1*x^0*y^2*z^1+(1*x^2*y^0*z^1+(1*x^1*y^2*z^0+(1*x^2*y^1*z^0+0))))))) := by kernel_rfl
theorem hv210 (x y z : Int) : sumv (detTab (row (hs x y z) 2 0) (row (hs x y z) 1 1) (row (hs x y z) 0 2)) = (1*(((0+x*1)+y*1)+z*1)*(((0+x*(0+x*1))+y*((0+x*1)+y*1))+z*(((0+x*1)+y*1)+z*1))*1+(1*(((0+x*(0+x*1))+y*((0+x*1)+y*1))+z*(((0+x*1)+y*1)+z*1))*(((0+x*(0+x*(0+x*1)))+y*((0+x*(0+x*1))+y*((0+x*1)+y*1)))+z*(((0+x*(0+x*1))+y*((0+x*1)+y*1))+z*(((0+x*1)+y*1)+z*1)))*0+(1*1*(((0+x*(0+x*(0+x*(0+x*1))))+y*((0+x*(0+x*(0+x*1)))+y*((0+x*(0+x*1))+y*((0+x*1)+y*1))))+z*(((0+x*(0+x*(0+x*1)))+y*((0+x*(0+x*1))+y*((0+x*1)+y*1)))+z*(((0+x*(0+x*1))+y*((0+x*1)+y*1))+z*(((0+x*1)+y*1)+z*1))))*0+((-1)*(((0+x*1)+y*1)+z*1)*(((0+x*(0+x*(0+x*(0+x*1))))+y*((0+x*(0+x*(0+x*1)))+y*((0+x*(0+x*1))+y*((0+x*1)+y*1))))+z*(((0+x*(0+x*(0+x*1)))+y*((0+x*(0+x*1))+y*((0+x*1)+y*1)))+z*(((0+x*(0+x*1))+y*((0+x*1)+y*1))+z*(((0+x*1)+y*1)+z*1))))*0+((-1)*(((0+x*(0+x*1))+y*((0+x*1)+y*1))+z*(((0+x*1)+y*1)+z*1))*(((0+x*(0+x*1))+y*((0+x*1)+y*1))+z*(((0+x*1)+y*1)+z*1))*0+((-1)*1*(((0+x*(0+x*(0+x*1)))+y*((0+x*(0+x*1))+y*((0+x*1)+y*1)))+z*(((0+x*(0+x*1))+y*((0+x*1)+y*1))+z*(((0+x*1)+y*1)+z*1)))*1+0)))))) := by kernel_rfl
theorem hi210 (x y z : Int) : (1*(((0+x*1)+y*1)+z*1)*(((0+x*(0+x*1))+y*((0+x*1)+y*1))+z*(((0+x*1)+y*1)+z*1))*1+(1*(((0+x*(0+x*1))+y*((0+x*1)+y*1))+z*(((0+x*1)+y*1)+z*1))*(((0+x*(0+x*(0+x*1)))+y*((0+x*(0+x*1))+y*((0+x*1)+y*1)))+z*(((0+x*(0+x*1))+y*((0+x*1)+y*1))+z*(((0+x*1)+y*1)+z*1)))*0+(1*1*(((0+x*(0+x*(0+x*(0+x*1))))+y*((0+x*(0+x*(0+x*1)))+y*((0+x*(0+x*1))+y*((0+x*1)+y*1))))+z*(((0+x*(0+x*(0+x*1)))+y*((0+x*(0+x*1))+y*((0+x*1)+y*1)))+z*(((0+x*(0+x*1))+y*((0+x*1)+y*1))+z*(((0+x*1)+y*1)+z*1))))*0+((-1)*(((0+x*1)+y*1)+z*1)*(((0+x*(0+x*(0+x*(0+x*1))))+y*((0+x*(0+x*(0+x*1)))+y*((0+x*(0+x*1))+y*((0+x*1)+y*1))))+z*(((0+x*(0+x*(0+x*1)))+y*((0+x*(0+x*1))+y*((0+x*1)+y*1)))+z*(((0+x*(0+x*1))+y*((0+x*1)+y*1))+z*(((0+x*1)+y*1)+z*1))))*0+((-1)*(((0+x*(0+x*1))+y*((0+x*1)+y*1))+z*(((0+x*1)+y*1)+z*1))*(((0+x*(0+x*1))+y*((0+x*1)+y*1))+z*(((0+x*1)+y*1)+z*1))*0+((-1)*1*(((0+x*(0+x*(0+x*1)))+y*((0+x*(0+x*1))+y*((0+x*1)+y*1)))+z*(((0+x*(0+x*1))+y*((0+x*1)+y*1))+z*(((0+x*1)+y*1)+z*1)))*1+0)))))) = (1*x^0*y^1*z^2+(1*x^1*y^0*z^2+(2*x^1*y^1*z^1+(1*x^0*y^2*z^1+(1*x^2*y^0*z^1+(1*x^1*y^2*z^0+(1*x^2*y^1*z^0+0))))))) := by grind
theorem ev210 (x y z : Int) : sumv (detTab (row (es x y z) 2 0) (row (es x y z) 1 1) (row (es x y z) 0 2)) = (1*(((0+x*1)+y*1)+z*1)*(((0+x*0)+y*(0+x*1))+z*((0+x*1)+y*1))*1+(1*(((0+x*0)+y*(0+x*1))+z*((0+x*1)+y*1))*(((0+x*0)+y*(0+x*0))+z*((0+x*0)+y*(0+x*1)))*0+(1*1*0*0+((-1)*(((0+x*1)+y*1)+z*1)*0*0+((-1)*(((0+x*0)+y*(0+x*1))+z*((0+x*1)+y*1))*(((0+x*0)+y*(0+x*1))+z*((0+x*1)+y*1))*0+((-1)*1*(((0+x*0)+y*(0+x*0))+z*((0+x*0)+y*(0+x*1)))*1+0)))))) := by kernel_rfl
theorem ei210 (x y z : Int) : (1*(((0+x*1)+y*1)+z*1)*(((0+x*0)+y*(0+x*1))+z*((0+x*1)+y*1))*1+(1*(((0+x*0)+y*(0+x*1))+z*((0+x*1)+y*1))*(((0+x*0)+y*(0+x*0))+z*((0+x*0)+y*(0+x*1)))*0+(1*1*0*0+((-1)*(((0+x*1)+y*1)+z*1)*0*0+((-1)*(((0+x*0)+y*(0+x*1))+z*((0+x*1)+y*1))*(((0+x*0)+y*(0+x*1))+z*((0+x*1)+y*1))*0+((-1)*1*(((0+x*0)+y*(0+x*0))+z*((0+x*0)+y*(0+x*1)))*1+0)))))) = (1*x^0*y^1*z^2+(1*x^1*y^0*z^2+(2*x^1*y^1*z^1+(1*x^0*y^2*z^1+(1*x^2*y^0*z^1+(1*x^1*y^2*z^0+(1*x^2*y^1*z^0+0))))))) := by grind
theorem vv210 (x y z : Int) : sumv (detTab (pwRow x 2 1 0) (pwRow y 2 1 0) (pwRow z 2 1 0)) = (1*y^2*x^4*z^0+(1*y^0*x^2*z^4+(1*y^4*x^0*z^2+((-1)*y^2*x^0*z^4+((-1)*y^0*x^4*z^2+((-1)*y^4*x^2*z^0+0)))))) := by kernel_rfl
theorem vi210 (x y z : Int) : (1*y^2*x^4*z^0+(1*y^0*x^2*z^4+(1*y^4*x^0*z^2+((-1)*y^2*x^0*z^4+((-1)*y^0*x^4*z^2+((-1)*y^4*x^2*z^0+0)))))) = (1*x^0*y^1*z^2+(1*x^1*y^0*z^2+(2*x^1*y^1*z^1+(1*x^0*y^2*z^1+(1*x^2*y^0*z^1+(1*x^1*y^2*z^0+(1*x^2*y^1*z^0+0)))))))*(x-y)*(x-z)*(y-z) := by grind
theorem wv211 (x y z : Int) : worthOf [x, y, z] (fillings 2 1 1) = (1*x^1*y^1*z^2+(1*x^1*y^2*z^1+(1*x^2*y^1*z^1+0))) := by kernel_rfl
theorem hv211 (x y z : Int) : sumv (detTab (row (hs x y z) 2 0) (row (hs x y z) 1 1) (row (hs x y z) 1 2)) = (1*(((0+x*1)+y*1)+z*1)*(((0+x*(0+x*1))+y*((0+x*1)+y*1))+z*(((0+x*1)+y*1)+z*1))*(((0+x*1)+y*1)+z*1)+(1*(((0+x*(0+x*1))+y*((0+x*1)+y*1))+z*(((0+x*1)+y*1)+z*1))*(((0+x*(0+x*(0+x*1)))+y*((0+x*(0+x*1))+y*((0+x*1)+y*1)))+z*(((0+x*(0+x*1))+y*((0+x*1)+y*1))+z*(((0+x*1)+y*1)+z*1)))*0+(1*1*(((0+x*(0+x*(0+x*(0+x*1))))+y*((0+x*(0+x*(0+x*1)))+y*((0+x*(0+x*1))+y*((0+x*1)+y*1))))+z*(((0+x*(0+x*(0+x*1)))+y*((0+x*(0+x*1))+y*((0+x*1)+y*1)))+z*(((0+x*(0+x*1))+y*((0+x*1)+y*1))+z*(((0+x*1)+y*1)+z*1))))*1+((-1)*(((0+x*1)+y*1)+z*1)*(((0+x*(0+x*(0+x*(0+x*1))))+y*((0+x*(0+x*(0+x*1)))+y*((0+x*(0+x*1))+y*((0+x*1)+y*1))))+z*(((0+x*(0+x*(0+x*1)))+y*((0+x*(0+x*1))+y*((0+x*1)+y*1)))+z*(((0+x*(0+x*1))+y*((0+x*1)+y*1))+z*(((0+x*1)+y*1)+z*1))))*0+((-1)*(((0+x*(0+x*1))+y*((0+x*1)+y*1))+z*(((0+x*1)+y*1)+z*1))*(((0+x*(0+x*1))+y*((0+x*1)+y*1))+z*(((0+x*1)+y*1)+z*1))*1+((-1)*1*(((0+x*(0+x*(0+x*1)))+y*((0+x*(0+x*1))+y*((0+x*1)+y*1)))+z*(((0+x*(0+x*1))+y*((0+x*1)+y*1))+z*(((0+x*1)+y*1)+z*1)))*(((0+x*1)+y*1)+z*1)+0)))))) := by kernel_rfl
theorem hi211 (x y z : Int) : (1*(((0+x*1)+y*1)+z*1)*(((0+x*(0+x*1))+y*((0+x*1)+y*1))+z*(((0+x*1)+y*1)+z*1))*(((0+x*1)+y*1)+z*1)+(1*(((0+x*(0+x*1))+y*((0+x*1)+y*1))+z*(((0+x*1)+y*1)+z*1))*(((0+x*(0+x*(0+x*1)))+y*((0+x*(0+x*1))+y*((0+x*1)+y*1)))+z*(((0+x*(0+x*1))+y*((0+x*1)+y*1))+z*(((0+x*1)+y*1)+z*1)))*0+(1*1*(((0+x*(0+x*(0+x*(0+x*1))))+y*((0+x*(0+x*(0+x*1)))+y*((0+x*(0+x*1))+y*((0+x*1)+y*1))))+z*(((0+x*(0+x*(0+x*1)))+y*((0+x*(0+x*1))+y*((0+x*1)+y*1)))+z*(((0+x*(0+x*1))+y*((0+x*1)+y*1))+z*(((0+x*1)+y*1)+z*1))))*1+((-1)*(((0+x*1)+y*1)+z*1)*(((0+x*(0+x*(0+x*(0+x*1))))+y*((0+x*(0+x*(0+x*1)))+y*((0+x*(0+x*1))+y*((0+x*1)+y*1))))+z*(((0+x*(0+x*(0+x*1)))+y*((0+x*(0+x*1))+y*((0+x*1)+y*1)))+z*(((0+x*(0+x*1))+y*((0+x*1)+y*1))+z*(((0+x*1)+y*1)+z*1))))*0+((-1)*(((0+x*(0+x*1))+y*((0+x*1)+y*1))+z*(((0+x*1)+y*1)+z*1))*(((0+x*(0+x*1))+y*((0+x*1)+y*1))+z*(((0+x*1)+y*1)+z*1))*1+((-1)*1*(((0+x*(0+x*(0+x*1)))+y*((0+x*(0+x*1))+y*((0+x*1)+y*1)))+z*(((0+x*(0+x*1))+y*((0+x*1)+y*1))+z*(((0+x*1)+y*1)+z*1)))*(((0+x*1)+y*1)+z*1)+0)))))) = (1*x^1*y^1*z^2+(1*x^1*y^2*z^1+(1*x^2*y^1*z^1+0))) := by grind
theorem ev211 (x y z : Int) : sumv (detTab (row (es x y z) 3 0) (row (es x y z) 1 1) (row (es x y z) 0 2)) = (1*(((0+x*1)+y*1)+z*1)*(((0+x*0)+y*(0+x*0))+z*((0+x*0)+y*(0+x*1)))*1+(1*(((0+x*0)+y*(0+x*1))+z*((0+x*1)+y*1))*0*0+(1*1*0*0+((-1)*(((0+x*1)+y*1)+z*1)*0*0+((-1)*(((0+x*0)+y*(0+x*1))+z*((0+x*1)+y*1))*(((0+x*0)+y*(0+x*0))+z*((0+x*0)+y*(0+x*1)))*0+((-1)*1*0*1+0)))))) := by kernel_rfl
theorem ei211 (x y z : Int) : (1*(((0+x*1)+y*1)+z*1)*(((0+x*0)+y*(0+x*0))+z*((0+x*0)+y*(0+x*1)))*1+(1*(((0+x*0)+y*(0+x*1))+z*((0+x*1)+y*1))*0*0+(1*1*0*0+((-1)*(((0+x*1)+y*1)+z*1)*0*0+((-1)*(((0+x*0)+y*(0+x*1))+z*((0+x*1)+y*1))*(((0+x*0)+y*(0+x*0))+z*((0+x*0)+y*(0+x*1)))*0+((-1)*1*0*1+0)))))) = (1*x^1*y^1*z^2+(1*x^1*y^2*z^1+(1*x^2*y^1*z^1+0))) := by grind
theorem vv211 (x y z : Int) : sumv (detTab (pwRow x 2 1 1) (pwRow y 2 1 1) (pwRow z 2 1 1)) = (1*y^2*x^4*z^1+(1*y^1*x^2*z^4+(1*y^4*x^1*z^2+((-1)*y^2*x^1*z^4+((-1)*y^1*x^4*z^2+((-1)*y^4*x^2*z^1+0)))))) := by kernel_rfl
theorem vi211 (x y z : Int) : (1*y^2*x^4*z^1+(1*y^1*x^2*z^4+(1*y^4*x^1*z^2+((-1)*y^2*x^1*z^4+((-1)*y^1*x^4*z^2+((-1)*y^4*x^2*z^1+0)))))) = (1*x^1*y^1*z^2+(1*x^1*y^2*z^1+(1*x^2*y^1*z^1+0)))*(x-y)*(x-z)*(y-z) := by grind
theorem wv220 (x y z : Int) : worthOf [x, y, z] (fillings 2 2 0) = (1*x^0*y^2*z^2+(1*x^1*y^1*z^2+(1*x^2*y^0*z^2+(1*x^1*y^2*z^1+(1*x^2*y^1*z^1+(1*x^2*y^2*z^0+0)))))) := by kernel_rfl
theorem hv220 (x y z : Int) : sumv (detTab (row (hs x y z) 2 0) (row (hs x y z) 2 1) (row (hs x y z) 0 2)) = (1*(((0+x*(0+x*1))+y*((0+x*1)+y*1))+z*(((0+x*1)+y*1)+z*1))*(((0+x*(0+x*1))+y*((0+x*1)+y*1))+z*(((0+x*1)+y*1)+z*1))*1+(1*(((0+x*(0+x*(0+x*1)))+y*((0+x*(0+x*1))+y*((0+x*1)+y*1)))+z*(((0+x*(0+x*1))+y*((0+x*1)+y*1))+z*(((0+x*1)+y*1)+z*1)))*(((0+x*(0+x*(0+x*1)))+y*((0+x*(0+x*1))+y*((0+x*1)+y*1)))+z*(((0+x*(0+x*1))+y*((0+x*1)+y*1))+z*(((0+x*1)+y*1)+z*1)))*0+(1*(((0+x*1)+y*1)+z*1)*(((0+x*(0+x*(0+x*(0+x*1))))+y*((0+x*(0+x*(0+x*1)))+y*((0+x*(0+x*1))+y*((0+x*1)+y*1))))+z*(((0+x*(0+x*(0+x*1)))+y*((0+x*(0+x*1))+y*((0+x*1)+y*1)))+z*(((0+x*(0+x*1))+y*((0+x*1)+y*1))+z*(((0+x*1)+y*1)+z*1))))*0+((-1)*(((0+x*(0+x*1))+y*((0+x*1)+y*1))+z*(((0+x*1)+y*1)+z*1))*(((0+x*(0+x*(0+x*(0+x*1))))+y*((0+x*(0+x*(0+x*1)))+y*((0+x*(0+x*1))+y*((0+x*1)+y*1))))+z*(((0+x*(0+x*(0+x*1)))+y*((0+x*(0+x*1))+y*((0+x*1)+y*1)))+z*(((0+x*(0+x*1))+y*((0+x*1)+y*1))+z*(((0+x*1)+y*1)+z*1))))*0+((-1)*(((0+x*(0+x*(0+x*1)))+y*((0+x*(0+x*1))+y*((0+x*1)+y*1)))+z*(((0+x*(0+x*1))+y*((0+x*1)+y*1))+z*(((0+x*1)+y*1)+z*1)))*(((0+x*(0+x*1))+y*((0+x*1)+y*1))+z*(((0+x*1)+y*1)+z*1))*0+((-1)*(((0+x*1)+y*1)+z*1)*(((0+x*(0+x*(0+x*1)))+y*((0+x*(0+x*1))+y*((0+x*1)+y*1)))+z*(((0+x*(0+x*1))+y*((0+x*1)+y*1))+z*(((0+x*1)+y*1)+z*1)))*1+0)))))) := by kernel_rfl
theorem hi220 (x y z : Int) : (1*(((0+x*(0+x*1))+y*((0+x*1)+y*1))+z*(((0+x*1)+y*1)+z*1))*(((0+x*(0+x*1))+y*((0+x*1)+y*1))+z*(((0+x*1)+y*1)+z*1))*1+(1*(((0+x*(0+x*(0+x*1)))+y*((0+x*(0+x*1))+y*((0+x*1)+y*1)))+z*(((0+x*(0+x*1))+y*((0+x*1)+y*1))+z*(((0+x*1)+y*1)+z*1)))*(((0+x*(0+x*(0+x*1)))+y*((0+x*(0+x*1))+y*((0+x*1)+y*1)))+z*(((0+x*(0+x*1))+y*((0+x*1)+y*1))+z*(((0+x*1)+y*1)+z*1)))*0+(1*(((0+x*1)+y*1)+z*1)*(((0+x*(0+x*(0+x*(0+x*1))))+y*((0+x*(0+x*(0+x*1)))+y*((0+x*(0+x*1))+y*((0+x*1)+y*1))))+z*(((0+x*(0+x*(0+x*1)))+y*((0+x*(0+x*1))+y*((0+x*1)+y*1)))+z*(((0+x*(0+x*1))+y*((0+x*1)+y*1))+z*(((0+x*1)+y*1)+z*1))))*0+((-1)*(((0+x*(0+x*1))+y*((0+x*1)+y*1))+z*(((0+x*1)+y*1)+z*1))*(((0+x*(0+x*(0+x*(0+x*1))))+y*((0+x*(0+x*(0+x*1)))+y*((0+x*(0+x*1))+y*((0+x*1)+y*1))))+z*(((0+x*(0+x*(0+x*1)))+y*((0+x*(0+x*1))+y*((0+x*1)+y*1)))+z*(((0+x*(0+x*1))+y*((0+x*1)+y*1))+z*(((0+x*1)+y*1)+z*1))))*0+((-1)*(((0+x*(0+x*(0+x*1)))+y*((0+x*(0+x*1))+y*((0+x*1)+y*1)))+z*(((0+x*(0+x*1))+y*((0+x*1)+y*1))+z*(((0+x*1)+y*1)+z*1)))*(((0+x*(0+x*1))+y*((0+x*1)+y*1))+z*(((0+x*1)+y*1)+z*1))*0+((-1)*(((0+x*1)+y*1)+z*1)*(((0+x*(0+x*(0+x*1)))+y*((0+x*(0+x*1))+y*((0+x*1)+y*1)))+z*(((0+x*(0+x*1))+y*((0+x*1)+y*1))+z*(((0+x*1)+y*1)+z*1)))*1+0)))))) = (1*x^0*y^2*z^2+(1*x^1*y^1*z^2+(1*x^2*y^0*z^2+(1*x^1*y^2*z^1+(1*x^2*y^1*z^1+(1*x^2*y^2*z^0+0)))))) := by grind
theorem ev220 (x y z : Int) : sumv (detTab (row (es x y z) 2 0) (row (es x y z) 2 1) (row (es x y z) 0 2)) = (1*(((0+x*0)+y*(0+x*1))+z*((0+x*1)+y*1))*(((0+x*0)+y*(0+x*1))+z*((0+x*1)+y*1))*1+(1*(((0+x*0)+y*(0+x*0))+z*((0+x*0)+y*(0+x*1)))*(((0+x*0)+y*(0+x*0))+z*((0+x*0)+y*(0+x*1)))*0+(1*(((0+x*1)+y*1)+z*1)*0*0+((-1)*(((0+x*0)+y*(0+x*1))+z*((0+x*1)+y*1))*0*0+((-1)*(((0+x*0)+y*(0+x*0))+z*((0+x*0)+y*(0+x*1)))*(((0+x*0)+y*(0+x*1))+z*((0+x*1)+y*1))*0+((-1)*(((0+x*1)+y*1)+z*1)*(((0+x*0)+y*(0+x*0))+z*((0+x*0)+y*(0+x*1)))*1+0)))))) := by kernel_rfl
theorem ei220 (x y z : Int) : (1*(((0+x*0)+y*(0+x*1))+z*((0+x*1)+y*1))*(((0+x*0)+y*(0+x*1))+z*((0+x*1)+y*1))*1+(1*(((0+x*0)+y*(0+x*0))+z*((0+x*0)+y*(0+x*1)))*(((0+x*0)+y*(0+x*0))+z*((0+x*0)+y*(0+x*1)))*0+(1*(((0+x*1)+y*1)+z*1)*0*0+((-1)*(((0+x*0)+y*(0+x*1))+z*((0+x*1)+y*1))*0*0+((-1)*(((0+x*0)+y*(0+x*0))+z*((0+x*0)+y*(0+x*1)))*(((0+x*0)+y*(0+x*1))+z*((0+x*1)+y*1))*0+((-1)*(((0+x*1)+y*1)+z*1)*(((0+x*0)+y*(0+x*0))+z*((0+x*0)+y*(0+x*1)))*1+0)))))) = (1*x^0*y^2*z^2+(1*x^1*y^1*z^2+(1*x^2*y^0*z^2+(1*x^1*y^2*z^1+(1*x^2*y^1*z^1+(1*x^2*y^2*z^0+0)))))) := by grind
theorem vv220 (x y z : Int) : sumv (detTab (pwRow x 2 2 0) (pwRow y 2 2 0) (pwRow z 2 2 0)) = (1*y^3*x^4*z^0+(1*y^0*x^3*z^4+(1*y^4*x^0*z^3+((-1)*y^3*x^0*z^4+((-1)*y^0*x^4*z^3+((-1)*y^4*x^3*z^0+0)))))) := by kernel_rfl
theorem vi220 (x y z : Int) : (1*y^3*x^4*z^0+(1*y^0*x^3*z^4+(1*y^4*x^0*z^3+((-1)*y^3*x^0*z^4+((-1)*y^0*x^4*z^3+((-1)*y^4*x^3*z^0+0)))))) = (1*x^0*y^2*z^2+(1*x^1*y^1*z^2+(1*x^2*y^0*z^2+(1*x^1*y^2*z^1+(1*x^2*y^1*z^1+(1*x^2*y^2*z^0+0))))))*(x-y)*(x-z)*(y-z) := by grind
theorem wv221 (x y z : Int) : worthOf [x, y, z] (fillings 2 2 1) = (1*x^1*y^2*z^2+(1*x^2*y^1*z^2+(1*x^2*y^2*z^1+0))) := by kernel_rfl
theorem hv221 (x y z : Int) : sumv (detTab (row (hs x y z) 2 0) (row (hs x y z) 2 1) (row (hs x y z) 1 2)) = (1*(((0+x*(0+x*1))+y*((0+x*1)+y*1))+z*(((0+x*1)+y*1)+z*1))*(((0+x*(0+x*1))+y*((0+x*1)+y*1))+z*(((0+x*1)+y*1)+z*1))*(((0+x*1)+y*1)+z*1)+(1*(((0+x*(0+x*(0+x*1)))+y*((0+x*(0+x*1))+y*((0+x*1)+y*1)))+z*(((0+x*(0+x*1))+y*((0+x*1)+y*1))+z*(((0+x*1)+y*1)+z*1)))*(((0+x*(0+x*(0+x*1)))+y*((0+x*(0+x*1))+y*((0+x*1)+y*1)))+z*(((0+x*(0+x*1))+y*((0+x*1)+y*1))+z*(((0+x*1)+y*1)+z*1)))*0+(1*(((0+x*1)+y*1)+z*1)*(((0+x*(0+x*(0+x*(0+x*1))))+y*((0+x*(0+x*(0+x*1)))+y*((0+x*(0+x*1))+y*((0+x*1)+y*1))))+z*(((0+x*(0+x*(0+x*1)))+y*((0+x*(0+x*1))+y*((0+x*1)+y*1)))+z*(((0+x*(0+x*1))+y*((0+x*1)+y*1))+z*(((0+x*1)+y*1)+z*1))))*1+((-1)*(((0+x*(0+x*1))+y*((0+x*1)+y*1))+z*(((0+x*1)+y*1)+z*1))*(((0+x*(0+x*(0+x*(0+x*1))))+y*((0+x*(0+x*(0+x*1)))+y*((0+x*(0+x*1))+y*((0+x*1)+y*1))))+z*(((0+x*(0+x*(0+x*1)))+y*((0+x*(0+x*1))+y*((0+x*1)+y*1)))+z*(((0+x*(0+x*1))+y*((0+x*1)+y*1))+z*(((0+x*1)+y*1)+z*1))))*0+((-1)*(((0+x*(0+x*(0+x*1)))+y*((0+x*(0+x*1))+y*((0+x*1)+y*1)))+z*(((0+x*(0+x*1))+y*((0+x*1)+y*1))+z*(((0+x*1)+y*1)+z*1)))*(((0+x*(0+x*1))+y*((0+x*1)+y*1))+z*(((0+x*1)+y*1)+z*1))*1+((-1)*(((0+x*1)+y*1)+z*1)*(((0+x*(0+x*(0+x*1)))+y*((0+x*(0+x*1))+y*((0+x*1)+y*1)))+z*(((0+x*(0+x*1))+y*((0+x*1)+y*1))+z*(((0+x*1)+y*1)+z*1)))*(((0+x*1)+y*1)+z*1)+0)))))) := by kernel_rfl
theorem hi221 (x y z : Int) : (1*(((0+x*(0+x*1))+y*((0+x*1)+y*1))+z*(((0+x*1)+y*1)+z*1))*(((0+x*(0+x*1))+y*((0+x*1)+y*1))+z*(((0+x*1)+y*1)+z*1))*(((0+x*1)+y*1)+z*1)+(1*(((0+x*(0+x*(0+x*1)))+y*((0+x*(0+x*1))+y*((0+x*1)+y*1)))+z*(((0+x*(0+x*1))+y*((0+x*1)+y*1))+z*(((0+x*1)+y*1)+z*1)))*(((0+x*(0+x*(0+x*1)))+y*((0+x*(0+x*1))+y*((0+x*1)+y*1)))+z*(((0+x*(0+x*1))+y*((0+x*1)+y*1))+z*(((0+x*1)+y*1)+z*1)))*0+(1*(((0+x*1)+y*1)+z*1)*(((0+x*(0+x*(0+x*(0+x*1))))+y*((0+x*(0+x*(0+x*1)))+y*((0+x*(0+x*1))+y*((0+x*1)+y*1))))+z*(((0+x*(0+x*(0+x*1)))+y*((0+x*(0+x*1))+y*((0+x*1)+y*1)))+z*(((0+x*(0+x*1))+y*((0+x*1)+y*1))+z*(((0+x*1)+y*1)+z*1))))*1+((-1)*(((0+x*(0+x*1))+y*((0+x*1)+y*1))+z*(((0+x*1)+y*1)+z*1))*(((0+x*(0+x*(0+x*(0+x*1))))+y*((0+x*(0+x*(0+x*1)))+y*((0+x*(0+x*1))+y*((0+x*1)+y*1))))+z*(((0+x*(0+x*(0+x*1)))+y*((0+x*(0+x*1))+y*((0+x*1)+y*1)))+z*(((0+x*(0+x*1))+y*((0+x*1)+y*1))+z*(((0+x*1)+y*1)+z*1))))*0+((-1)*(((0+x*(0+x*(0+x*1)))+y*((0+x*(0+x*1))+y*((0+x*1)+y*1)))+z*(((0+x*(0+x*1))+y*((0+x*1)+y*1))+z*(((0+x*1)+y*1)+z*1)))*(((0+x*(0+x*1))+y*((0+x*1)+y*1))+z*(((0+x*1)+y*1)+z*1))*1+((-1)*(((0+x*1)+y*1)+z*1)*(((0+x*(0+x*(0+x*1)))+y*((0+x*(0+x*1))+y*((0+x*1)+y*1)))+z*(((0+x*(0+x*1))+y*((0+x*1)+y*1))+z*(((0+x*1)+y*1)+z*1)))*(((0+x*1)+y*1)+z*1)+0)))))) = (1*x^1*y^2*z^2+(1*x^2*y^1*z^2+(1*x^2*y^2*z^1+0))) := by grind
theorem ev221 (x y z : Int) : sumv (detTab (row (es x y z) 3 0) (row (es x y z) 2 1) (row (es x y z) 0 2)) = (1*(((0+x*0)+y*(0+x*1))+z*((0+x*1)+y*1))*(((0+x*0)+y*(0+x*0))+z*((0+x*0)+y*(0+x*1)))*1+(1*(((0+x*0)+y*(0+x*0))+z*((0+x*0)+y*(0+x*1)))*0*0+(1*(((0+x*1)+y*1)+z*1)*0*0+((-1)*(((0+x*0)+y*(0+x*1))+z*((0+x*1)+y*1))*0*0+((-1)*(((0+x*0)+y*(0+x*0))+z*((0+x*0)+y*(0+x*1)))*(((0+x*0)+y*(0+x*0))+z*((0+x*0)+y*(0+x*1)))*0+((-1)*(((0+x*1)+y*1)+z*1)*0*1+0)))))) := by kernel_rfl
theorem ei221 (x y z : Int) : (1*(((0+x*0)+y*(0+x*1))+z*((0+x*1)+y*1))*(((0+x*0)+y*(0+x*0))+z*((0+x*0)+y*(0+x*1)))*1+(1*(((0+x*0)+y*(0+x*0))+z*((0+x*0)+y*(0+x*1)))*0*0+(1*(((0+x*1)+y*1)+z*1)*0*0+((-1)*(((0+x*0)+y*(0+x*1))+z*((0+x*1)+y*1))*0*0+((-1)*(((0+x*0)+y*(0+x*0))+z*((0+x*0)+y*(0+x*1)))*(((0+x*0)+y*(0+x*0))+z*((0+x*0)+y*(0+x*1)))*0+((-1)*(((0+x*1)+y*1)+z*1)*0*1+0)))))) = (1*x^1*y^2*z^2+(1*x^2*y^1*z^2+(1*x^2*y^2*z^1+0))) := by grind
theorem vv221 (x y z : Int) : sumv (detTab (pwRow x 2 2 1) (pwRow y 2 2 1) (pwRow z 2 2 1)) = (1*y^3*x^4*z^1+(1*y^1*x^3*z^4+(1*y^4*x^1*z^3+((-1)*y^3*x^1*z^4+((-1)*y^1*x^4*z^3+((-1)*y^4*x^3*z^1+0)))))) := by kernel_rfl
theorem vi221 (x y z : Int) : (1*y^3*x^4*z^1+(1*y^1*x^3*z^4+(1*y^4*x^1*z^3+((-1)*y^3*x^1*z^4+((-1)*y^1*x^4*z^3+((-1)*y^4*x^3*z^1+0)))))) = (1*x^1*y^2*z^2+(1*x^2*y^1*z^2+(1*x^2*y^2*z^1+0)))*(x-y)*(x-z)*(y-z) := by grind
theorem wv222 (x y z : Int) : worthOf [x, y, z] (fillings 2 2 2) = (1*x^2*y^2*z^2+0) := by kernel_rfl
theorem hv222 (x y z : Int) : sumv (detTab (row (hs x y z) 2 0) (row (hs x y z) 2 1) (row (hs x y z) 2 2)) = (1*(((0+x*(0+x*1))+y*((0+x*1)+y*1))+z*(((0+x*1)+y*1)+z*1))*(((0+x*(0+x*1))+y*((0+x*1)+y*1))+z*(((0+x*1)+y*1)+z*1))*(((0+x*(0+x*1))+y*((0+x*1)+y*1))+z*(((0+x*1)+y*1)+z*1))+(1*(((0+x*(0+x*(0+x*1)))+y*((0+x*(0+x*1))+y*((0+x*1)+y*1)))+z*(((0+x*(0+x*1))+y*((0+x*1)+y*1))+z*(((0+x*1)+y*1)+z*1)))*(((0+x*(0+x*(0+x*1)))+y*((0+x*(0+x*1))+y*((0+x*1)+y*1)))+z*(((0+x*(0+x*1))+y*((0+x*1)+y*1))+z*(((0+x*1)+y*1)+z*1)))*1+(1*(((0+x*1)+y*1)+z*1)*(((0+x*(0+x*(0+x*(0+x*1))))+y*((0+x*(0+x*(0+x*1)))+y*((0+x*(0+x*1))+y*((0+x*1)+y*1))))+z*(((0+x*(0+x*(0+x*1)))+y*((0+x*(0+x*1))+y*((0+x*1)+y*1)))+z*(((0+x*(0+x*1))+y*((0+x*1)+y*1))+z*(((0+x*1)+y*1)+z*1))))*(((0+x*1)+y*1)+z*1)+((-1)*(((0+x*(0+x*1))+y*((0+x*1)+y*1))+z*(((0+x*1)+y*1)+z*1))*(((0+x*(0+x*(0+x*(0+x*1))))+y*((0+x*(0+x*(0+x*1)))+y*((0+x*(0+x*1))+y*((0+x*1)+y*1))))+z*(((0+x*(0+x*(0+x*1)))+y*((0+x*(0+x*1))+y*((0+x*1)+y*1)))+z*(((0+x*(0+x*1))+y*((0+x*1)+y*1))+z*(((0+x*1)+y*1)+z*1))))*1+((-1)*(((0+x*(0+x*(0+x*1)))+y*((0+x*(0+x*1))+y*((0+x*1)+y*1)))+z*(((0+x*(0+x*1))+y*((0+x*1)+y*1))+z*(((0+x*1)+y*1)+z*1)))*(((0+x*(0+x*1))+y*((0+x*1)+y*1))+z*(((0+x*1)+y*1)+z*1))*(((0+x*1)+y*1)+z*1)+((-1)*(((0+x*1)+y*1)+z*1)*(((0+x*(0+x*(0+x*1)))+y*((0+x*(0+x*1))+y*((0+x*1)+y*1)))+z*(((0+x*(0+x*1))+y*((0+x*1)+y*1))+z*(((0+x*1)+y*1)+z*1)))*(((0+x*(0+x*1))+y*((0+x*1)+y*1))+z*(((0+x*1)+y*1)+z*1))+0)))))) := by kernel_rfl
theorem hi222 (x y z : Int) : (1*(((0+x*(0+x*1))+y*((0+x*1)+y*1))+z*(((0+x*1)+y*1)+z*1))*(((0+x*(0+x*1))+y*((0+x*1)+y*1))+z*(((0+x*1)+y*1)+z*1))*(((0+x*(0+x*1))+y*((0+x*1)+y*1))+z*(((0+x*1)+y*1)+z*1))+(1*(((0+x*(0+x*(0+x*1)))+y*((0+x*(0+x*1))+y*((0+x*1)+y*1)))+z*(((0+x*(0+x*1))+y*((0+x*1)+y*1))+z*(((0+x*1)+y*1)+z*1)))*(((0+x*(0+x*(0+x*1)))+y*((0+x*(0+x*1))+y*((0+x*1)+y*1)))+z*(((0+x*(0+x*1))+y*((0+x*1)+y*1))+z*(((0+x*1)+y*1)+z*1)))*1+(1*(((0+x*1)+y*1)+z*1)*(((0+x*(0+x*(0+x*(0+x*1))))+y*((0+x*(0+x*(0+x*1)))+y*((0+x*(0+x*1))+y*((0+x*1)+y*1))))+z*(((0+x*(0+x*(0+x*1)))+y*((0+x*(0+x*1))+y*((0+x*1)+y*1)))+z*(((0+x*(0+x*1))+y*((0+x*1)+y*1))+z*(((0+x*1)+y*1)+z*1))))*(((0+x*1)+y*1)+z*1)+((-1)*(((0+x*(0+x*1))+y*((0+x*1)+y*1))+z*(((0+x*1)+y*1)+z*1))*(((0+x*(0+x*(0+x*(0+x*1))))+y*((0+x*(0+x*(0+x*1)))+y*((0+x*(0+x*1))+y*((0+x*1)+y*1))))+z*(((0+x*(0+x*(0+x*1)))+y*((0+x*(0+x*1))+y*((0+x*1)+y*1)))+z*(((0+x*(0+x*1))+y*((0+x*1)+y*1))+z*(((0+x*1)+y*1)+z*1))))*1+((-1)*(((0+x*(0+x*(0+x*1)))+y*((0+x*(0+x*1))+y*((0+x*1)+y*1)))+z*(((0+x*(0+x*1))+y*((0+x*1)+y*1))+z*(((0+x*1)+y*1)+z*1)))*(((0+x*(0+x*1))+y*((0+x*1)+y*1))+z*(((0+x*1)+y*1)+z*1))*(((0+x*1)+y*1)+z*1)+((-1)*(((0+x*1)+y*1)+z*1)*(((0+x*(0+x*(0+x*1)))+y*((0+x*(0+x*1))+y*((0+x*1)+y*1)))+z*(((0+x*(0+x*1))+y*((0+x*1)+y*1))+z*(((0+x*1)+y*1)+z*1)))*(((0+x*(0+x*1))+y*((0+x*1)+y*1))+z*(((0+x*1)+y*1)+z*1))+0)))))) = (1*x^2*y^2*z^2+0) := by grind
theorem ev222 (x y z : Int) : sumv (detTab (row (es x y z) 3 0) (row (es x y z) 3 1) (row (es x y z) 0 2)) = (1*(((0+x*0)+y*(0+x*0))+z*((0+x*0)+y*(0+x*1)))*(((0+x*0)+y*(0+x*0))+z*((0+x*0)+y*(0+x*1)))*1+(1*0*0*0+(1*(((0+x*0)+y*(0+x*1))+z*((0+x*1)+y*1))*0*0+((-1)*(((0+x*0)+y*(0+x*0))+z*((0+x*0)+y*(0+x*1)))*0*0+((-1)*0*(((0+x*0)+y*(0+x*0))+z*((0+x*0)+y*(0+x*1)))*0+((-1)*(((0+x*0)+y*(0+x*1))+z*((0+x*1)+y*1))*0*1+0)))))) := by kernel_rfl
theorem ei222 (x y z : Int) : (1*(((0+x*0)+y*(0+x*0))+z*((0+x*0)+y*(0+x*1)))*(((0+x*0)+y*(0+x*0))+z*((0+x*0)+y*(0+x*1)))*1+(1*0*0*0+(1*(((0+x*0)+y*(0+x*1))+z*((0+x*1)+y*1))*0*0+((-1)*(((0+x*0)+y*(0+x*0))+z*((0+x*0)+y*(0+x*1)))*0*0+((-1)*0*(((0+x*0)+y*(0+x*0))+z*((0+x*0)+y*(0+x*1)))*0+((-1)*(((0+x*0)+y*(0+x*1))+z*((0+x*1)+y*1))*0*1+0)))))) = (1*x^2*y^2*z^2+0) := by grind
theorem vv222 (x y z : Int) : sumv (detTab (pwRow x 2 2 2) (pwRow y 2 2 2) (pwRow z 2 2 2)) = (1*y^3*x^4*z^2+(1*y^2*x^3*z^4+(1*y^4*x^2*z^3+((-1)*y^3*x^2*z^4+((-1)*y^2*x^4*z^3+((-1)*y^4*x^3*z^2+0)))))) := by kernel_rfl
theorem vi222 (x y z : Int) : (1*y^3*x^4*z^2+(1*y^2*x^3*z^4+(1*y^4*x^2*z^3+((-1)*y^3*x^2*z^4+((-1)*y^2*x^4*z^3+((-1)*y^4*x^3*z^2+0)))))) = (1*x^2*y^2*z^2+0)*(x-y)*(x-z)*(y-z) := by grind
theorem wv300 (x y z : Int) : worthOf [x, y, z] (fillings 3 0 0) = (1*x^0*y^0*z^3+(1*x^0*y^1*z^2+(1*x^1*y^0*z^2+(1*x^0*y^2*z^1+(1*x^1*y^1*z^1+(1*x^2*y^0*z^1+(1*x^0*y^3*z^0+(1*x^1*y^2*z^0+(1*x^2*y^1*z^0+(1*x^3*y^0*z^0+0)))))))))) := by kernel_rfl
theorem hv300 (x y z : Int) : sumv (detTab (row (hs x y z) 3 0) (row (hs x y z) 0 1) (row (hs x y z) 0 2)) = (1*1*(((0+x*(0+x*(0+x*1)))+y*((0+x*(0+x*1))+y*((0+x*1)+y*1)))+z*(((0+x*(0+x*1))+y*((0+x*1)+y*1))+z*(((0+x*1)+y*1)+z*1)))*1+(1*(((0+x*1)+y*1)+z*1)*(((0+x*(0+x*(0+x*(0+x*1))))+y*((0+x*(0+x*(0+x*1)))+y*((0+x*(0+x*1))+y*((0+x*1)+y*1))))+z*(((0+x*(0+x*(0+x*1)))+y*((0+x*(0+x*1))+y*((0+x*1)+y*1)))+z*(((0+x*(0+x*1))+y*((0+x*1)+y*1))+z*(((0+x*1)+y*1)+z*1))))*0+(1*0*(((0+x*(0+x*(0+x*(0+x*(0+x*1)))))+y*((0+x*(0+x*(0+x*(0+x*1))))+y*((0+x*(0+x*(0+x*1)))+y*((0+x*(0+x*1))+y*((0+x*1)+y*1)))))+z*(((0+x*(0+x*(0+x*(0+x*1))))+y*((0+x*(0+x*(0+x*1)))+y*((0+x*(0+x*1))+y*((0+x*1)+y*1))))+z*(((0+x*(0+x*(0+x*1)))+y*((0+x*(0+x*1))+y*((0+x*1)+y*1)))+z*(((0+x*(0+x*1))+y*((0+x*1)+y*1))+z*(((0+x*1)+y*1)+z*1)))))*0+((-1)*1*(((0+x*(0+x*(0+x*(0+x*(0+x*1)))))+y*((0+x*(0+x*(0+x*(0+x*1))))+y*((0+x*(0+x*(0+x*1)))+y*((0+x*(0+x*1))+y*((0+x*1)+y*1)))))+z*(((0+x*(0+x*(0+x*(0+x*1))))+y*((0+x*(0+x*(0+x*1)))+y*((0+x*(0+x*1))+y*((0+x*1)+y*1))))+z*(((0+x*(0+x*(0+x*1)))+y*((0+x*(0+x*1))+y*((0+x*1)+y*1)))+z*(((0+x*(0+x*1))+y*((0+x*1)+y*1))+z*(((0+x*1)+y*1)+z*1)))))*0+((-1)*(((0+x*1)+y*1)+z*1)*(((0+x*(0+x*(0+x*1)))+y*((0+x*(0+x*1))+y*((0+x*1)+y*1)))+z*(((0+x*(0+x*1))+y*((0+x*1)+y*1))+z*(((0+x*1)+y*1)+z*1)))*0+((-1)*0*(((0+x*(0+x*(0+x*(0+x*1))))+y*((0+x*(0+x*(0+x*1)))+y*((0+x*(0+x*1))+y*((0+x*1)+y*1))))+z*(((0+x*(0+x*(0+x*1)))+y*((0+x*(0+x*1))+y*((0+x*1)+y*1)))+z*(((0+x*(0+x*1))+y*((0+x*1)+y*1))+z*(((0+x*1)+y*1)+z*1))))*1+0)))))) := by kernel_rfl
theorem hi300 (x y z : Int) : (1*1*(((0+x*(0+x*(0+x*1)))+y*((0+x*(0+x*1))+y*((0+x*1)+y*1)))+z*(((0+x*(0+x*1))+y*((0+x*1)+y*1))+z*(((0+x*1)+y*1)+z*1)))*1+(1*(((0+x*1)+y*1)+z*1)*(((0+x*(0+x*(0+x*(0+x*1))))+y*((0+x*(0+x*(0+x*1)))+y*((0+x*(0+x*1))+y*((0+x*1)+y*1))))+z*(((0+x*(0+x*(0+x*1)))+y*((0+x*(0+x*1))+y*((0+x*1)+y*1)))+z*(((0+x*(0+x*1))+y*((0+x*1)+y*1))+z*(((0+x*1)+y*1)+z*1))))*0+(1*0*(((0+x*(0+x*(0+x*(0+x*(0+x*1)))))+y*((0+x*(0+x*(0+x*(0+x*1))))+y*((0+x*(0+x*(0+x*1)))+y*((0+x*(0+x*1))+y*((0+x*1)+y*1)))))+z*(((0+x*(0+x*(0+x*(0+x*1))))+y*((0+x*(0+x*(0+x*1)))+y*((0+x*(0+x*1))+y*((0+x*1)+y*1))))+z*(((0+x*(0+x*(0+x*1)))+y*((0+x*(0+x*1))+y*((0+x*1)+y*1)))+z*(((0+x*(0+x*1))+y*((0+x*1)+y*1))+z*(((0+x*1)+y*1)+z*1)))))*0+((-1)*1*(((0+x*(0+x*(0+x*(0+x*(0+x*1)))))+y*((0+x*(0+x*(0+x*(0+x*1))))+y*((0+x*(0+x*(0+x*1)))+y*((0+x*(0+x*1))+y*((0+x*1)+y*1)))))+z*(((0+x*(0+x*(0+x*(0+x*1))))+y*((0+x*(0+x*(0+x*1)))+y*((0+x*(0+x*1))+y*((0+x*1)+y*1))))+z*(((0+x*(0+x*(0+x*1)))+y*((0+x*(0+x*1))+y*((0+x*1)+y*1)))+z*(((0+x*(0+x*1))+y*((0+x*1)+y*1))+z*(((0+x*1)+y*1)+z*1)))))*0+((-1)*(((0+x*1)+y*1)+z*1)*(((0+x*(0+x*(0+x*1)))+y*((0+x*(0+x*1))+y*((0+x*1)+y*1)))+z*(((0+x*(0+x*1))+y*((0+x*1)+y*1))+z*(((0+x*1)+y*1)+z*1)))*0+((-1)*0*(((0+x*(0+x*(0+x*(0+x*1))))+y*((0+x*(0+x*(0+x*1)))+y*((0+x*(0+x*1))+y*((0+x*1)+y*1))))+z*(((0+x*(0+x*(0+x*1)))+y*((0+x*(0+x*1))+y*((0+x*1)+y*1)))+z*(((0+x*(0+x*1))+y*((0+x*1)+y*1))+z*(((0+x*1)+y*1)+z*1))))*1+0)))))) = (1*x^0*y^0*z^3+(1*x^0*y^1*z^2+(1*x^1*y^0*z^2+(1*x^0*y^2*z^1+(1*x^1*y^1*z^1+(1*x^2*y^0*z^1+(1*x^0*y^3*z^0+(1*x^1*y^2*z^0+(1*x^2*y^1*z^0+(1*x^3*y^0*z^0+0)))))))))) := by grind
theorem ev300 (x y z : Int) : sumv (detTab (row (es x y z) 1 0) (row (es x y z) 1 1) (row (es x y z) 1 2)) = (1*(((0+x*1)+y*1)+z*1)*(((0+x*1)+y*1)+z*1)*(((0+x*1)+y*1)+z*1)+(1*(((0+x*0)+y*(0+x*1))+z*((0+x*1)+y*1))*(((0+x*0)+y*(0+x*1))+z*((0+x*1)+y*1))*0+(1*1*(((0+x*0)+y*(0+x*0))+z*((0+x*0)+y*(0+x*1)))*1+((-1)*(((0+x*1)+y*1)+z*1)*(((0+x*0)+y*(0+x*0))+z*((0+x*0)+y*(0+x*1)))*0+((-1)*(((0+x*0)+y*(0+x*1))+z*((0+x*1)+y*1))*(((0+x*1)+y*1)+z*1)*1+((-1)*1*(((0+x*0)+y*(0+x*1))+z*((0+x*1)+y*1))*(((0+x*1)+y*1)+z*1)+0)))))) := by kernel_rfl
theorem ei300 (x y z : Int) : (1*(((0+x*1)+y*1)+z*1)*(((0+x*1)+y*1)+z*1)*(((0+x*1)+y*1)+z*1)+(1*(((0+x*0)+y*(0+x*1))+z*((0+x*1)+y*1))*(((0+x*0)+y*(0+x*1))+z*((0+x*1)+y*1))*0+(1*1*(((0+x*0)+y*(0+x*0))+z*((0+x*0)+y*(0+x*1)))*1+((-1)*(((0+x*1)+y*1)+z*1)*(((0+x*0)+y*(0+x*0))+z*((0+x*0)+y*(0+x*1)))*0+((-1)*(((0+x*0)+y*(0+x*1))+z*((0+x*1)+y*1))*(((0+x*1)+y*1)+z*1)*1+((-1)*1*(((0+x*0)+y*(0+x*1))+z*((0+x*1)+y*1))*(((0+x*1)+y*1)+z*1)+0)))))) = (1*x^0*y^0*z^3+(1*x^0*y^1*z^2+(1*x^1*y^0*z^2+(1*x^0*y^2*z^1+(1*x^1*y^1*z^1+(1*x^2*y^0*z^1+(1*x^0*y^3*z^0+(1*x^1*y^2*z^0+(1*x^2*y^1*z^0+(1*x^3*y^0*z^0+0)))))))))) := by grind
theorem vv300 (x y z : Int) : sumv (detTab (pwRow x 3 0 0) (pwRow y 3 0 0) (pwRow z 3 0 0)) = (1*y^1*x^5*z^0+(1*y^0*x^1*z^5+(1*y^5*x^0*z^1+((-1)*y^1*x^0*z^5+((-1)*y^0*x^5*z^1+((-1)*y^5*x^1*z^0+0)))))) := by kernel_rfl
theorem vi300 (x y z : Int) : (1*y^1*x^5*z^0+(1*y^0*x^1*z^5+(1*y^5*x^0*z^1+((-1)*y^1*x^0*z^5+((-1)*y^0*x^5*z^1+((-1)*y^5*x^1*z^0+0)))))) = (1*x^0*y^0*z^3+(1*x^0*y^1*z^2+(1*x^1*y^0*z^2+(1*x^0*y^2*z^1+(1*x^1*y^1*z^1+(1*x^2*y^0*z^1+(1*x^0*y^3*z^0+(1*x^1*y^2*z^0+(1*x^2*y^1*z^0+(1*x^3*y^0*z^0+0))))))))))*(x-y)*(x-z)*(y-z) := by grind
theorem wv310 (x y z : Int) : worthOf [x, y, z] (fillings 3 1 0) = (1*x^0*y^1*z^3+(1*x^1*y^0*z^3+(2*x^1*y^1*z^2+(1*x^0*y^2*z^2+(1*x^2*y^0*z^2+(2*x^1*y^2*z^1+(2*x^2*y^1*z^1+(1*x^0*y^3*z^1+(1*x^3*y^0*z^1+(1*x^1*y^3*z^0+(1*x^2*y^2*z^0+(1*x^3*y^1*z^0+0)))))))))))) := by kernel_rfl
theorem hv310 (x y z : Int) : sumv (detTab (row (hs x y z) 3 0) (row (hs x y z) 1 1) (row (hs x y z) 0 2)) = (1*(((0+x*1)+y*1)+z*1)*(((0+x*(0+x*(0+x*1)))+y*((0+x*(0+x*1))+y*((0+x*1)+y*1)))+z*(((0+x*(0+x*1))+y*((0+x*1)+y*1))+z*(((0+x*1)+y*1)+z*1)))*1+(1*(((0+x*(0+x*1))+y*((0+x*1)+y*1))+z*(((0+x*1)+y*1)+z*1))*(((0+x*(0+x*(0+x*(0+x*1))))+y*((0+x*(0+x*(0+x*1)))+y*((0+x*(0+x*1))+y*((0+x*1)+y*1))))+z*(((0+x*(0+x*(0+x*1)))+y*((0+x*(0+x*1))+y*((0+x*1)+y*1)))+z*(((0+x*(0+x*1))+y*((0+x*1)+y*1))+z*(((0+x*1)+y*1)+z*1))))*0+(1*1*(((0+x*(0+x*(0+x*(0+x*(0+x*1)))))+y*((0+x*(0+x*(0+x*(0+x*1))))+y*((0+x*(0+x*(0+x*1)))+y*((0+x*(0+x*1))+y*((0+x*1)+y*1)))))+z*(((0+x*(0+x*(0+x*(0+x*1))))+y*((0+x*(0+x*(0+x*1)))+y*((0+x*(0+x*1))+y*((0+x*1)+y*1))))+z*(((0+x*(0+x*(0+x*1)))+y*((0+x*(0+x*1))+y*((0+x*1)+y*1)))+z*(((0+x*(0+x*1))+y*((0+x*1)+y*1))+z*(((0+x*1)+y*1)+z*1)))))*0+((-1)*(((0+x*1)+y*1)+z*1)*(((0+x*(0+x*(0+x*(0+x*(0+x*1)))))+y*((0+x*(0+x*(0+x*(0+x*1))))+y*((0+x*(0+x*(0+x*1)))+y*((0+x*(0+x*1))+y*((0+x*1)+y*1)))))+z*(((0+x*(0+x*(0+x*(0+x*1))))+y*((0+x*(0+x*(0+x*1)))+y*((0+x*(0+x*1))+y*((0+x*1)+y*1))))+z*(((0+x*(0+x*(0+x*1)))+y*((0+x*(0+x*1))+y*((0+x*1)+y*1)))+z*(((0+x*(0+x*1))+y*((0+x*1)+y*1))+z*(((0+x*1)+y*1)+z*1)))))*0+((-1)*(((0+x*(0+x*1))+y*((0+x*1)+y*1))+z*(((0+x*1)+y*1)+z*1))*(((0+x*(0+x*(0+x*1)))+y*((0+x*(0+x*1))+y*((0+x*1)+y*1)))+z*(((0+x*(0+x*1))+y*((0+x*1)+y*1))+z*(((0+x*1)+y*1)+z*1)))*0+((-1)*1*(((0+x*(0+x*(0+x*(0+x*1))))+y*((0+x*(0+x*(0+x*1)))+y*((0+x*(0+x*1))+y*((0+x*1)+y*1))))+z*(((0+x*(0+x*(0+x*1)))+y*((0+x*(0+x*1))+y*((0+x*1)+y*1)))+z*(((0+x*(0+x*1))+y*((0+x*1)+y*1))+z*(((0+x*1)+y*1)+z*1))))*1+0)))))) := by kernel_rfl
theorem hi310 (x y z : Int) : (1*(((0+x*1)+y*1)+z*1)*(((0+x*(0+x*(0+x*1)))+y*((0+x*(0+x*1))+y*((0+x*1)+y*1)))+z*(((0+x*(0+x*1))+y*((0+x*1)+y*1))+z*(((0+x*1)+y*1)+z*1)))*1+(1*(((0+x*(0+x*1))+y*((0+x*1)+y*1))+z*(((0+x*1)+y*1)+z*1))*(((0+x*(0+x*(0+x*(0+x*1))))+y*((0+x*(0+x*(0+x*1)))+y*((0+x*(0+x*1))+y*((0+x*1)+y*1))))+z*(((0+x*(0+x*(0+x*1)))+y*((0+x*(0+x*1))+y*((0+x*1)+y*1)))+z*(((0+x*(0+x*1))+y*((0+x*1)+y*1))+z*(((0+x*1)+y*1)+z*1))))*0+(1*1*(((0+x*(0+x*(0+x*(0+x*(0+x*1)))))+y*((0+x*(0+x*(0+x*(0+x*1))))+y*((0+x*(0+x*(0+x*1)))+y*((0+x*(0+x*1))+y*((0+x*1)+y*1)))))+z*(((0+x*(0+x*(0+x*(0+x*1))))+y*((0+x*(0+x*(0+x*1)))+y*((0+x*(0+x*1))+y*((0+x*1)+y*1))))+z*(((0+x*(0+x*(0+x*1)))+y*((0+x*(0+x*1))+y*((0+x*1)+y*1)))+z*(((0+x*(0+x*1))+y*((0+x*1)+y*1))+z*(((0+x*1)+y*1)+z*1)))))*0+((-1)*(((0+x*1)+y*1)+z*1)*(((0+x*(0+x*(0+x*(0+x*(0+x*1)))))+y*((0+x*(0+x*(0+x*(0+x*1))))+y*((0+x*(0+x*(0+x*1)))+y*((0+x*(0+x*1))+y*((0+x*1)+y*1)))))+z*(((0+x*(0+x*(0+x*(0+x*1))))+y*((0+x*(0+x*(0+x*1)))+y*((0+x*(0+x*1))+y*((0+x*1)+y*1))))+z*(((0+x*(0+x*(0+x*1)))+y*((0+x*(0+x*1))+y*((0+x*1)+y*1)))+z*(((0+x*(0+x*1))+y*((0+x*1)+y*1))+z*(((0+x*1)+y*1)+z*1)))))*0+((-1)*(((0+x*(0+x*1))+y*((0+x*1)+y*1))+z*(((0+x*1)+y*1)+z*1))*(((0+x*(0+x*(0+x*1)))+y*((0+x*(0+x*1))+y*((0+x*1)+y*1)))+z*(((0+x*(0+x*1))+y*((0+x*1)+y*1))+z*(((0+x*1)+y*1)+z*1)))*0+((-1)*1*(((0+x*(0+x*(0+x*(0+x*1))))+y*((0+x*(0+x*(0+x*1)))+y*((0+x*(0+x*1))+y*((0+x*1)+y*1))))+z*(((0+x*(0+x*(0+x*1)))+y*((0+x*(0+x*1))+y*((0+x*1)+y*1)))+z*(((0+x*(0+x*1))+y*((0+x*1)+y*1))+z*(((0+x*1)+y*1)+z*1))))*1+0)))))) = (1*x^0*y^1*z^3+(1*x^1*y^0*z^3+(2*x^1*y^1*z^2+(1*x^0*y^2*z^2+(1*x^2*y^0*z^2+(2*x^1*y^2*z^1+(2*x^2*y^1*z^1+(1*x^0*y^3*z^1+(1*x^3*y^0*z^1+(1*x^1*y^3*z^0+(1*x^2*y^2*z^0+(1*x^3*y^1*z^0+0)))))))))))) := by grind
theorem ev310 (x y z : Int) : sumv (detTab (row (es x y z) 2 0) (row (es x y z) 1 1) (row (es x y z) 1 2)) = (1*(((0+x*1)+y*1)+z*1)*(((0+x*0)+y*(0+x*1))+z*((0+x*1)+y*1))*(((0+x*1)+y*1)+z*1)+(1*(((0+x*0)+y*(0+x*1))+z*((0+x*1)+y*1))*(((0+x*0)+y*(0+x*0))+z*((0+x*0)+y*(0+x*1)))*0+(1*1*0*1+((-1)*(((0+x*1)+y*1)+z*1)*0*0+((-1)*(((0+x*0)+y*(0+x*1))+z*((0+x*1)+y*1))*(((0+x*0)+y*(0+x*1))+z*((0+x*1)+y*1))*1+((-1)*1*(((0+x*0)+y*(0+x*0))+z*((0+x*0)+y*(0+x*1)))*(((0+x*1)+y*1)+z*1)+0)))))) := by kernel_rfl
theorem ei310 (x y z : Int) : (1*(((0+x*1)+y*1)+z*1)*(((0+x*0)+y*(0+x*1))+z*((0+x*1)+y*1))*(((0+x*1)+y*1)+z*1)+(1*(((0+x*0)+y*(0+x*1))+z*((0+x*1)+y*1))*(((0+x*0)+y*(0+x*0))+z*((0+x*0)+y*(0+x*1)))*0+(1*1*0*1+((-1)*(((0+x*1)+y*1)+z*1)*0*0+((-1)*(((0+x*0)+y*(0+x*1))+z*((0+x*1)+y*1))*(((0+x*0)+y*(0+x*1))+z*((0+x*1)+y*1))*1+((-1)*1*(((0+x*0)+y*(0+x*0))+z*((0+x*0)+y*(0+x*1)))*(((0+x*1)+y*1)+z*1)+0)))))) = (1*x^0*y^1*z^3+(1*x^1*y^0*z^3+(2*x^1*y^1*z^2+(1*x^0*y^2*z^2+(1*x^2*y^0*z^2+(2*x^1*y^2*z^1+(2*x^2*y^1*z^1+(1*x^0*y^3*z^1+(1*x^3*y^0*z^1+(1*x^1*y^3*z^0+(1*x^2*y^2*z^0+(1*x^3*y^1*z^0+0)))))))))))) := by grind
theorem vv310 (x y z : Int) : sumv (detTab (pwRow x 3 1 0) (pwRow y 3 1 0) (pwRow z 3 1 0)) = (1*y^2*x^5*z^0+(1*y^0*x^2*z^5+(1*y^5*x^0*z^2+((-1)*y^2*x^0*z^5+((-1)*y^0*x^5*z^2+((-1)*y^5*x^2*z^0+0)))))) := by kernel_rfl
theorem vi310 (x y z : Int) : (1*y^2*x^5*z^0+(1*y^0*x^2*z^5+(1*y^5*x^0*z^2+((-1)*y^2*x^0*z^5+((-1)*y^0*x^5*z^2+((-1)*y^5*x^2*z^0+0)))))) = (1*x^0*y^1*z^3+(1*x^1*y^0*z^3+(2*x^1*y^1*z^2+(1*x^0*y^2*z^2+(1*x^2*y^0*z^2+(2*x^1*y^2*z^1+(2*x^2*y^1*z^1+(1*x^0*y^3*z^1+(1*x^3*y^0*z^1+(1*x^1*y^3*z^0+(1*x^2*y^2*z^0+(1*x^3*y^1*z^0+0))))))))))))*(x-y)*(x-z)*(y-z) := by grind
theorem wv311 (x y z : Int) : worthOf [x, y, z] (fillings 3 1 1) = (1*x^1*y^1*z^3+(1*x^1*y^2*z^2+(1*x^2*y^1*z^2+(1*x^1*y^3*z^1+(1*x^2*y^2*z^1+(1*x^3*y^1*z^1+0)))))) := by kernel_rfl
theorem hv311 (x y z : Int) : sumv (detTab (row (hs x y z) 3 0) (row (hs x y z) 1 1) (row (hs x y z) 1 2)) = (1*(((0+x*1)+y*1)+z*1)*(((0+x*(0+x*(0+x*1)))+y*((0+x*(0+x*1))+y*((0+x*1)+y*1)))+z*(((0+x*(0+x*1))+y*((0+x*1)+y*1))+z*(((0+x*1)+y*1)+z*1)))*(((0+x*1)+y*1)+z*1)+(1*(((0+x*(0+x*1))+y*((0+x*1)+y*1))+z*(((0+x*1)+y*1)+z*1))*(((0+x*(0+x*(0+x*(0+x*1))))+y*((0+x*(0+x*(0+x*1)))+y*((0+x*(0+x*1))+y*((0+x*1)+y*1))))+z*(((0+x*(0+x*(0+x*1)))+y*((0+x*(0+x*1))+y*((0+x*1)+y*1)))+z*(((0+x*(0+x*1))+y*((0+x*1)+y*1))+z*(((0+x*1)+y*1)+z*1))))*0+(1*1*(((0+x*(0+x*(0+x*(0+x*(0+x*1)))))+y*((0+x*(0+x*(0+x*(0+x*1))))+y*((0+x*(0+x*(0+x*1)))+y*((0+x*(0+x*1))+y*((0+x*1)+y*1)))))+z*(((0+x*(0+x*(0+x*(0+x*1))))+y*((0+x*(0+x*(0+x*1)))+y*((0+x*(0+x*1))+y*((0+x*1)+y*1))))+z*(((0+x*(0+x*(0+x*1)))+y*((0+x*(0+x*1))+y*((0+x*1)+y*1)))+z*(((0+x*(0+x*1))+y*((0+x*1)+y*1))+z*(((0+x*1)+y*1)+z*1)))))*1+((-1)*(((0+x*1)+y*1)+z*1)*(((0+x*(0+x*(0+x*(0+x*(0+x*1)))))+y*((0+x*(0+x*(0+x*(0+x*1))))+y*((0+x*(0+x*(0+x*1)))+y*((0+x*(0+x*1))+y*((0+x*1)+y*1)))))+z*(((0+x*(0+x*(0+x*(0+x*1))))+y*((0+x*(0+x*(0+x*1)))+y*((0+x*(0+x*1))+y*((0+x*1)+y*1))))+z*(((0+x*(0+x*(0+x*1)))+y*((0+x*(0+x*1))+y*((0+x*1)+y*1)))+z*(((0+x*(0+x*1))+y*((0+x*1)+y*1))+z*(((0+x*1)+y*1)+z*1)))))*0+((-1)*(((0+x*(0+x*1))+y*((0+x*1)+y*1))+z*(((0+x*1)+y*1)+z*1))*(((0+x*(0+x*(0+x*1)))+y*((0+x*(0+x*1))+y*((0+x*1)+y*1)))+z*(((0+x*(0+x*1))+y*((0+x*1)+y*1))+z*(((0+x*1)+y*1)+z*1)))*1+((-1)*1*(((0+x*(0+x*(0+x*(0+x*1))))+y*((0+x*(0+x*(0+x*1)))+y*((0+x*(0+x*1))+y*((0+x*1)+y*1))))+z*(((0+x*(0+x*(0+x*1)))+y*((0+x*(0+x*1))+y*((0+x*1)+y*1)))+z*(((0+x*(0+x*1))+y*((0+x*1)+y*1))+z*(((0+x*1)+y*1)+z*1))))*(((0+x*1)+y*1)+z*1)+0)))))) := by kernel_rfl
theorem hi311 (x y z : Int) : (1*(((0+x*1)+y*1)+z*1)*(((0+x*(0+x*(0+x*1)))+y*((0+x*(0+x*1))+y*((0+x*1)+y*1)))+z*(((0+x*(0+x*1))+y*((0+x*1)+y*1))+z*(((0+x*1)+y*1)+z*1)))*(((0+x*1)+y*1)+z*1)+(1*(((0+x*(0+x*1))+y*((0+x*1)+y*1))+z*(((0+x*1)+y*1)+z*1))*(((0+x*(0+x*(0+x*(0+x*1))))+y*((0+x*(0+x*(0+x*1)))+y*((0+x*(0+x*1))+y*((0+x*1)+y*1))))+z*(((0+x*(0+x*(0+x*1)))+y*((0+x*(0+x*1))+y*((0+x*1)+y*1)))+z*(((0+x*(0+x*1))+y*((0+x*1)+y*1))+z*(((0+x*1)+y*1)+z*1))))*0+(1*1*(((0+x*(0+x*(0+x*(0+x*(0+x*1)))))+y*((0+x*(0+x*(0+x*(0+x*1))))+y*((0+x*(0+x*(0+x*1)))+y*((0+x*(0+x*1))+y*((0+x*1)+y*1)))))+z*(((0+x*(0+x*(0+x*(0+x*1))))+y*((0+x*(0+x*(0+x*1)))+y*((0+x*(0+x*1))+y*((0+x*1)+y*1))))+z*(((0+x*(0+x*(0+x*1)))+y*((0+x*(0+x*1))+y*((0+x*1)+y*1)))+z*(((0+x*(0+x*1))+y*((0+x*1)+y*1))+z*(((0+x*1)+y*1)+z*1)))))*1+((-1)*(((0+x*1)+y*1)+z*1)*(((0+x*(0+x*(0+x*(0+x*(0+x*1)))))+y*((0+x*(0+x*(0+x*(0+x*1))))+y*((0+x*(0+x*(0+x*1)))+y*((0+x*(0+x*1))+y*((0+x*1)+y*1)))))+z*(((0+x*(0+x*(0+x*(0+x*1))))+y*((0+x*(0+x*(0+x*1)))+y*((0+x*(0+x*1))+y*((0+x*1)+y*1))))+z*(((0+x*(0+x*(0+x*1)))+y*((0+x*(0+x*1))+y*((0+x*1)+y*1)))+z*(((0+x*(0+x*1))+y*((0+x*1)+y*1))+z*(((0+x*1)+y*1)+z*1)))))*0+((-1)*(((0+x*(0+x*1))+y*((0+x*1)+y*1))+z*(((0+x*1)+y*1)+z*1))*(((0+x*(0+x*(0+x*1)))+y*((0+x*(0+x*1))+y*((0+x*1)+y*1)))+z*(((0+x*(0+x*1))+y*((0+x*1)+y*1))+z*(((0+x*1)+y*1)+z*1)))*1+((-1)*1*(((0+x*(0+x*(0+x*(0+x*1))))+y*((0+x*(0+x*(0+x*1)))+y*((0+x*(0+x*1))+y*((0+x*1)+y*1))))+z*(((0+x*(0+x*(0+x*1)))+y*((0+x*(0+x*1))+y*((0+x*1)+y*1)))+z*(((0+x*(0+x*1))+y*((0+x*1)+y*1))+z*(((0+x*1)+y*1)+z*1))))*(((0+x*1)+y*1)+z*1)+0)))))) = (1*x^1*y^1*z^3+(1*x^1*y^2*z^2+(1*x^2*y^1*z^2+(1*x^1*y^3*z^1+(1*x^2*y^2*z^1+(1*x^3*y^1*z^1+0)))))) := by grind
theorem ev311 (x y z : Int) : sumv (detTab (row (es x y z) 3 0) (row (es x y z) 1 1) (row (es x y z) 1 2)) = (1*(((0+x*1)+y*1)+z*1)*(((0+x*0)+y*(0+x*0))+z*((0+x*0)+y*(0+x*1)))*(((0+x*1)+y*1)+z*1)+(1*(((0+x*0)+y*(0+x*1))+z*((0+x*1)+y*1))*0*0+(1*1*0*1+((-1)*(((0+x*1)+y*1)+z*1)*0*0+((-1)*(((0+x*0)+y*(0+x*1))+z*((0+x*1)+y*1))*(((0+x*0)+y*(0+x*0))+z*((0+x*0)+y*(0+x*1)))*1+((-1)*1*0*(((0+x*1)+y*1)+z*1)+0)))))) := by kernel_rfl
theorem ei311 (x y z : Int) : (1*(((0+x*1)+y*1)+z*1)*(((0+x*0)+y*(0+x*0))+z*((0+x*0)+y*(0+x*1)))*(((0+x*1)+y*1)+z*1)+(1*(((0+x*0)+y*(0+x*1))+z*((0+x*1)+y*1))*0*0+(1*1*0*1+((-1)*(((0+x*1)+y*1)+z*1)*0*0+((-1)*(((0+x*0)+y*(0+x*1))+z*((0+x*1)+y*1))*(((0+x*0)+y*(0+x*0))+z*((0+x*0)+y*(0+x*1)))*1+((-1)*1*0*(((0+x*1)+y*1)+z*1)+0)))))) = (1*x^1*y^1*z^3+(1*x^1*y^2*z^2+(1*x^2*y^1*z^2+(1*x^1*y^3*z^1+(1*x^2*y^2*z^1+(1*x^3*y^1*z^1+0)))))) := by grind
theorem vv311 (x y z : Int) : sumv (detTab (pwRow x 3 1 1) (pwRow y 3 1 1) (pwRow z 3 1 1)) = (1*y^2*x^5*z^1+(1*y^1*x^2*z^5+(1*y^5*x^1*z^2+((-1)*y^2*x^1*z^5+((-1)*y^1*x^5*z^2+((-1)*y^5*x^2*z^1+0)))))) := by kernel_rfl
theorem vi311 (x y z : Int) : (1*y^2*x^5*z^1+(1*y^1*x^2*z^5+(1*y^5*x^1*z^2+((-1)*y^2*x^1*z^5+((-1)*y^1*x^5*z^2+((-1)*y^5*x^2*z^1+0)))))) = (1*x^1*y^1*z^3+(1*x^1*y^2*z^2+(1*x^2*y^1*z^2+(1*x^1*y^3*z^1+(1*x^2*y^2*z^1+(1*x^3*y^1*z^1+0))))))*(x-y)*(x-z)*(y-z) := by grind
theorem wv320 (x y z : Int) : worthOf [x, y, z] (fillings 3 2 0) = (1*x^0*y^2*z^3+(1*x^1*y^1*z^3+(1*x^2*y^0*z^3+(2*x^1*y^2*z^2+(2*x^2*y^1*z^2+(2*x^2*y^2*z^1+(1*x^0*y^3*z^2+(1*x^3*y^0*z^2+(1*x^1*y^3*z^1+(1*x^3*y^1*z^1+(1*x^2*y^3*z^0+(1*x^3*y^2*z^0+0)))))))))))) := by kernel_rfl
theorem hv320 (x y z : Int) : sumv (detTab (row (hs x y z) 3 0) (row (hs x y z) 2 1) (row (hs x y z) 0 2)) = (1*(((0+x*(0+x*1))+y*((0+x*1)+y*1))+z*(((0+x*1)+y*1)+z*1))*(((0+x*(0+x*(0+x*1)))+y*((0+x*(0+x*1))+y*((0+x*1)+y*1)))+z*(((0+x*(0+x*1))+y*((0+x*1)+y*1))+z*(((0+x*1)+y*1)+z*1)))*1+(1*(((0+x*(0+x*(0+x*1)))+y*((0+x*(0+x*1))+y*((0+x*1)+y*1)))+z*(((0+x*(0+x*1))+y*((0+x*1)+y*1))+z*(((0+x*1)+y*1)+z*1)))*(((0+x*(0+x*(0+x*(0+x*1))))+y*((0+x*(0+x*(0+x*1)))+y*((0+x*(0+x*1))+y*((0+x*1)+y*1))))+z*(((0+x*(0+x*(0+x*1)))+y*((0+x*(0+x*1))+y*((0+x*1)+y*1)))+z*(((0+x*(0+x*1))+y*((0+x*1)+y*1))+z*(((0+x*1)+y*1)+z*1))))*0+(1*(((0+x*1)+y*1)+z*1)*(((0+x*(0+x*(0+x*(0+x*(0+x*1)))))+y*((0+x*(0+x*(0+x*(0+x*1))))+y*((0+x*(0+x*(0+x*1)))+y*((0+x*(0+x*1))+y*((0+x*1)+y*1)))))+z*(((0+x*(0+x*(0+x*(0+x*1))))+y*((0+x*(0+x*(0+x*1)))+y*((0+x*(0+x*1))+y*((0+x*1)+y*1))))+z*(((0+x*(0+x*(0+x*1)))+y*((0+x*(0+x*1))+y*((0+x*1)+y*1)))+z*(((0+x*(0+x*1))+y*((0+x*1)+y*1))+z*(((0+x*1)+y*1)+z*1)))))*0+((-1)*(((0+x*(0+x*1))+y*((0+x*1)+y*1))+z*(((0+x*1)+y*1)+z*1))*(((0+x*(0+x*(0+x*(0+x*(0+x*1)))))+y*((0+x*(0+x*(0+x*(0+x*1))))+y*((0+x*(0+x*(0+x*1)))+y*((0+x*(0+x*1))+y*((0+x*1)+y*1)))))+z*(((0+x*(0+x*(0+x*(0+x*1))))+y*((0+x*(0+x*(0+x*1)))+y*((0+x*(0+x*1))+y*((0+x*1)+y*1))))+z*(((0+x*(0+x*(0+x*1)))+y*((0+x*(0+x*1))+y*((0+x*1)+y*1)))+z*(((0+x*(0+x*1))+y*((0+x*1)+y*1))+z*(((0+x*1)+y*1)+z*1)))))*0+((-1)*(((0+x*(0+x*(0+x*1)))+y*((0+x*(0+x*1))+y*((0+x*1)+y*1)))+z*(((0+x*(0+x*1))+y*((0+x*1)+y*1))+z*(((0+x*1)+y*1)+z*1)))*(((0+x*(0+x*(0+x*1)))+y*((0+x*(0+x*1))+y*((0+x*1)+y*1)))+z*(((0+x*(0+x*1))+y*((0+x*1)+y*1))+z*(((0+x*1)+y*1)+z*1)))*0+((-1)*(((0+x*1)+y*1)+z*1)*(((0+x*(0+x*(0+x*(0+x*1))))+y*((0+x*(0+x*(0+x*1)))+y*((0+x*(0+x*1))+y*((0+x*1)+y*1))))+z*(((0+x*(0+x*(0+x*1)))+y*((0+x*(0+x*1))+y*((0+x*1)+y*1)))+z*(((0+x*(0+x*1))+y*((0+x*1)+y*1))+z*(((0+x*1)+y*1)+z*1))))*1+0)))))) := by kernel_rfl
theorem hi320 (x y z : Int) : (1*(((0+x*(0+x*1))+y*((0+x*1)+y*1))+z*(((0+x*1)+y*1)+z*1))*(((0+x*(0+x*(0+x*1)))+y*((0+x*(0+x*1))+y*((0+x*1)+y*1)))+z*(((0+x*(0+x*1))+y*((0+x*1)+y*1))+z*(((0+x*1)+y*1)+z*1)))*1+(1*(((0+x*(0+x*(0+x*1)))+y*((0+x*(0+x*1))+y*((0+x*1)+y*1)))+z*(((0+x*(0+x*1))+y*((0+x*1)+y*1))+z*(((0+x*1)+y*1)+z*1)))*(((0+x*(0+x*(0+x*(0+x*1))))+y*((0+x*(0+x*(0+x*1)))+y*((0+x*(0+x*1))+y*((0+x*1)+y*1))))+z*(((0+x*(0+x*(0+x*1)))+y*((0+x*(0+x*1))+y*((0+x*1)+y*1)))+z*(((0+x*(0+x*1))+y*((0+x*1)+y*1))+z*(((0+x*1)+y*1)+z*1))))*0+(1*(((0+x*1)+y*1)+z*1)*(((0+x*(0+x*(0+x*(0+x*(0+x*1)))))+y*((0+x*(0+x*(0+x*(0+x*1))))+y*((0+x*(0+x*(0+x*1)))+y*((0+x*(0+x*1))+y*((0+x*1)+y*1)))))+z*(((0+x*(0+x*(0+x*(0+x*1))))+y*((0+x*(0+x*(0+x*1)))+y*((0+x*(0+x*1))+y*((0+x*1)+y*1))))+z*(((0+x*(0+x*(0+x*1)))+y*((0+x*(0+x*1))+y*((0+x*1)+y*1)))+z*(((0+x*(0+x*1))+y*((0+x*1)+y*1))+z*(((0+x*1)+y*1)+z*1)))))*0+((-1)*(((0+x*(0+x*1))+y*((0+x*1)+y*1))+z*(((0+x*1)+y*1)+z*1))*(((0+x*(0+x*(0+x*(0+x*(0+x*1)))))+y*((0+x*(0+x*(0+x*(0+x*1))))+y*((0+x*(0+x*(0+x*1)))+y*((0+x*(0+x*1))+y*((0+x*1)+y*1)))))+z*(((0+x*(0+x*(0+x*(0+x*1))))+y*((0+x*(0+x*(0+x*1)))+y*((0+x*(0+x*1))+y*((0+x*1)+y*1))))+z*(((0+x*(0+x*(0+x*1)))+y*((0+x*(0+x*1))+y*((0+x*1)+y*1)))+z*(((0+x*(0+x*1))+y*((0+x*1)+y*1))+z*(((0+x*1)+y*1)+z*1)))))*0+((-1)*(((0+x*(0+x*(0+x*1)))+y*((0+x*(0+x*1))+y*((0+x*1)+y*1)))+z*(((0+x*(0+x*1))+y*((0+x*1)+y*1))+z*(((0+x*1)+y*1)+z*1)))*(((0+x*(0+x*(0+x*1)))+y*((0+x*(0+x*1))+y*((0+x*1)+y*1)))+z*(((0+x*(0+x*1))+y*((0+x*1)+y*1))+z*(((0+x*1)+y*1)+z*1)))*0+((-1)*(((0+x*1)+y*1)+z*1)*(((0+x*(0+x*(0+x*(0+x*1))))+y*((0+x*(0+x*(0+x*1)))+y*((0+x*(0+x*1))+y*((0+x*1)+y*1))))+z*(((0+x*(0+x*(0+x*1)))+y*((0+x*(0+x*1))+y*((0+x*1)+y*1)))+z*(((0+x*(0+x*1))+y*((0+x*1)+y*1))+z*(((0+x*1)+y*1)+z*1))))*1+0)))))) = (1*x^0*y^2*z^3+(1*x^1*y^1*z^3+(1*x^2*y^0*z^3+(2*x^1*y^2*z^2+(2*x^2*y^1*z^2+(2*x^2*y^2*z^1+(1*x^0*y^3*z^2+(1*x^3*y^0*z^2+(1*x^1*y^3*z^1+(1*x^3*y^1*z^1+(1*x^2*y^3*z^0+(1*x^3*y^2*z^0+0)))))))))))) := by grind
theorem ev320 (x y z : Int) : sumv (detTab (row (es x y z) 2 0) (row (es x y z) 2 1) (row (es x y z) 1 2)) = (1*(((0+x*0)+y*(0+x*1))+z*((0+x*1)+y*1))*(((0+x*0)+y*(0+x*1))+z*((0+x*1)+y*1))*(((0+x*1)+y*1)+z*1)+(1*(((0+x*0)+y*(0+x*0))+z*((0+x*0)+y*(0+x*1)))*(((0+x*0)+y*(0+x*0))+z*((0+x*0)+y*(0+x*1)))*0+(1*(((0+x*1)+y*1)+z*1)*0*1+((-1)*(((0+x*0)+y*(0+x*1))+z*((0+x*1)+y*1))*0*0+((-1)*(((0+x*0)+y*(0+x*0))+z*((0+x*0)+y*(0+x*1)))*(((0+x*0)+y*(0+x*1))+z*((0+x*1)+y*1))*1+((-1)*(((0+x*1)+y*1)+z*1)*(((0+x*0)+y*(0+x*0))+z*((0+x*0)+y*(0+x*1)))*(((0+x*1)+y*1)+z*1)+0)))))) := by kernel_rfl
theorem ei320 (x y z : Int) : (1*(((0+x*0)+y*(0+x*1))+z*((0+x*1)+y*1))*(((0+x*0)+y*(0+x*1))+z*((0+x*1)+y*1))*(((0+x*1)+y*1)+z*1)+(1*(((0+x*0)+y*(0+x*0))+z*((0+x*0)+y*(0+x*1)))*(((0+x*0)+y*(0+x*0))+z*((0+x*0)+y*(0+x*1)))*0+(1*(((0+x*1)+y*1)+z*1)*0*1+((-1)*(((0+x*0)+y*(0+x*1))+z*((0+x*1)+y*1))*0*0+((-1)*(((0+x*0)+y*(0+x*0))+z*((0+x*0)+y*(0+x*1)))*(((0+x*0)+y*(0+x*1))+z*((0+x*1)+y*1))*1+((-1)*(((0+x*1)+y*1)+z*1)*(((0+x*0)+y*(0+x*0))+z*((0+x*0)+y*(0+x*1)))*(((0+x*1)+y*1)+z*1)+0)))))) = (1*x^0*y^2*z^3+(1*x^1*y^1*z^3+(1*x^2*y^0*z^3+(2*x^1*y^2*z^2+(2*x^2*y^1*z^2+(2*x^2*y^2*z^1+(1*x^0*y^3*z^2+(1*x^3*y^0*z^2+(1*x^1*y^3*z^1+(1*x^3*y^1*z^1+(1*x^2*y^3*z^0+(1*x^3*y^2*z^0+0)))))))))))) := by grind
theorem vv320 (x y z : Int) : sumv (detTab (pwRow x 3 2 0) (pwRow y 3 2 0) (pwRow z 3 2 0)) = (1*y^3*x^5*z^0+(1*y^0*x^3*z^5+(1*y^5*x^0*z^3+((-1)*y^3*x^0*z^5+((-1)*y^0*x^5*z^3+((-1)*y^5*x^3*z^0+0)))))) := by kernel_rfl
theorem vi320 (x y z : Int) : (1*y^3*x^5*z^0+(1*y^0*x^3*z^5+(1*y^5*x^0*z^3+((-1)*y^3*x^0*z^5+((-1)*y^0*x^5*z^3+((-1)*y^5*x^3*z^0+0)))))) = (1*x^0*y^2*z^3+(1*x^1*y^1*z^3+(1*x^2*y^0*z^3+(2*x^1*y^2*z^2+(2*x^2*y^1*z^2+(2*x^2*y^2*z^1+(1*x^0*y^3*z^2+(1*x^3*y^0*z^2+(1*x^1*y^3*z^1+(1*x^3*y^1*z^1+(1*x^2*y^3*z^0+(1*x^3*y^2*z^0+0))))))))))))*(x-y)*(x-z)*(y-z) := by grind
theorem wv321 (x y z : Int) : worthOf [x, y, z] (fillings 3 2 1) = (1*x^1*y^2*z^3+(1*x^2*y^1*z^3+(2*x^2*y^2*z^2+(1*x^1*y^3*z^2+(1*x^3*y^1*z^2+(1*x^2*y^3*z^1+(1*x^3*y^2*z^1+0))))))) := by kernel_rfl
theorem hv321 (x y z : Int) : sumv (detTab (row (hs x y z) 3 0) (row (hs x y z) 2 1) (row (hs x y z) 1 2)) = (1*(((0+x*(0+x*1))+y*((0+x*1)+y*1))+z*(((0+x*1)+y*1)+z*1))*(((0+x*(0+x*(0+x*1)))+y*((0+x*(0+x*1))+y*((0+x*1)+y*1)))+z*(((0+x*(0+x*1))+y*((0+x*1)+y*1))+z*(((0+x*1)+y*1)+z*1)))*(((0+x*1)+y*1)+z*1)+(1*(((0+x*(0+x*(0+x*1)))+y*((0+x*(0+x*1))+y*((0+x*1)+y*1)))+z*(((0+x*(0+x*1))+y*((0+x*1)+y*1))+z*(((0+x*1)+y*1)+z*1)))*(((0+x*(0+x*(0+x*(0+x*1))))+y*((0+x*(0+x*(0+x*1)))+y*((0+x*(0+x*1))+y*((0+x*1)+y*1))))+z*(((0+x*(0+x*(0+x*1)))+y*((0+x*(0+x*1))+y*((0+x*1)+y*1)))+z*(((0+x*(0+x*1))+y*((0+x*1)+y*1))+z*(((0+x*1)+y*1)+z*1))))*0+(1*(((0+x*1)+y*1)+z*1)*(((0+x*(0+x*(0+x*(0+x*(0+x*1)))))+y*((0+x*(0+x*(0+x*(0+x*1))))+y*((0+x*(0+x*(0+x*1)))+y*((0+x*(0+x*1))+y*((0+x*1)+y*1)))))+z*(((0+x*(0+x*(0+x*(0+x*1))))+y*((0+x*(0+x*(0+x*1)))+y*((0+x*(0+x*1))+y*((0+x*1)+y*1))))+z*(((0+x*(0+x*(0+x*1)))+y*((0+x*(0+x*1))+y*((0+x*1)+y*1)))+z*(((0+x*(0+x*1))+y*((0+x*1)+y*1))+z*(((0+x*1)+y*1)+z*1)))))*1+((-1)*(((0+x*(0+x*1))+y*((0+x*1)+y*1))+z*(((0+x*1)+y*1)+z*1))*(((0+x*(0+x*(0+x*(0+x*(0+x*1)))))+y*((0+x*(0+x*(0+x*(0+x*1))))+y*((0+x*(0+x*(0+x*1)))+y*((0+x*(0+x*1))+y*((0+x*1)+y*1)))))+z*(((0+x*(0+x*(0+x*(0+x*1))))+y*((0+x*(0+x*(0+x*1)))+y*((0+x*(0+x*1))+y*((0+x*1)+y*1))))+z*(((0+x*(0+x*(0+x*1)))+y*((0+x*(0+x*1))+y*((0+x*1)+y*1)))+z*(((0+x*(0+x*1))+y*((0+x*1)+y*1))+z*(((0+x*1)+y*1)+z*1)))))*0+((-1)*(((0+x*(0+x*(0+x*1)))+y*((0+x*(0+x*1))+y*((0+x*1)+y*1)))+z*(((0+x*(0+x*1))+y*((0+x*1)+y*1))+z*(((0+x*1)+y*1)+z*1)))*(((0+x*(0+x*(0+x*1)))+y*((0+x*(0+x*1))+y*((0+x*1)+y*1)))+z*(((0+x*(0+x*1))+y*((0+x*1)+y*1))+z*(((0+x*1)+y*1)+z*1)))*1+((-1)*(((0+x*1)+y*1)+z*1)*(((0+x*(0+x*(0+x*(0+x*1))))+y*((0+x*(0+x*(0+x*1)))+y*((0+x*(0+x*1))+y*((0+x*1)+y*1))))+z*(((0+x*(0+x*(0+x*1)))+y*((0+x*(0+x*1))+y*((0+x*1)+y*1)))+z*(((0+x*(0+x*1))+y*((0+x*1)+y*1))+z*(((0+x*1)+y*1)+z*1))))*(((0+x*1)+y*1)+z*1)+0)))))) := by kernel_rfl
theorem hi321 (x y z : Int) : (1*(((0+x*(0+x*1))+y*((0+x*1)+y*1))+z*(((0+x*1)+y*1)+z*1))*(((0+x*(0+x*(0+x*1)))+y*((0+x*(0+x*1))+y*((0+x*1)+y*1)))+z*(((0+x*(0+x*1))+y*((0+x*1)+y*1))+z*(((0+x*1)+y*1)+z*1)))*(((0+x*1)+y*1)+z*1)+(1*(((0+x*(0+x*(0+x*1)))+y*((0+x*(0+x*1))+y*((0+x*1)+y*1)))+z*(((0+x*(0+x*1))+y*((0+x*1)+y*1))+z*(((0+x*1)+y*1)+z*1)))*(((0+x*(0+x*(0+x*(0+x*1))))+y*((0+x*(0+x*(0+x*1)))+y*((0+x*(0+x*1))+y*((0+x*1)+y*1))))+z*(((0+x*(0+x*(0+x*1)))+y*((0+x*(0+x*1))+y*((0+x*1)+y*1)))+z*(((0+x*(0+x*1))+y*((0+x*1)+y*1))+z*(((0+x*1)+y*1)+z*1))))*0+(1*(((0+x*1)+y*1)+z*1)*(((0+x*(0+x*(0+x*(0+x*(0+x*1)))))+y*((0+x*(0+x*(0+x*(0+x*1))))+y*((0+x*(0+x*(0+x*1)))+y*((0+x*(0+x*1))+y*((0+x*1)+y*1)))))+z*(((0+x*(0+x*(0+x*(0+x*1))))+y*((0+x*(0+x*(0+x*1)))+y*((0+x*(0+x*1))+y*((0+x*1)+y*1))))+z*(((0+x*(0+x*(0+x*1)))+y*((0+x*(0+x*1))+y*((0+x*1)+y*1)))+z*(((0+x*(0+x*1))+y*((0+x*1)+y*1))+z*(((0+x*1)+y*1)+z*1)))))*1+((-1)*(((0+x*(0+x*1))+y*((0+x*1)+y*1))+z*(((0+x*1)+y*1)+z*1))*(((0+x*(0+x*(0+x*(0+x*(0+x*1)))))+y*((0+x*(0+x*(0+x*(0+x*1))))+y*((0+x*(0+x*(0+x*1)))+y*((0+x*(0+x*1))+y*((0+x*1)+y*1)))))+z*(((0+x*(0+x*(0+x*(0+x*1))))+y*((0+x*(0+x*(0+x*1)))+y*((0+x*(0+x*1))+y*((0+x*1)+y*1))))+z*(((0+x*(0+x*(0+x*1)))+y*((0+x*(0+x*1))+y*((0+x*1)+y*1)))+z*(((0+x*(0+x*1))+y*((0+x*1)+y*1))+z*(((0+x*1)+y*1)+z*1)))))*0+((-1)*(((0+x*(0+x*(0+x*1)))+y*((0+x*(0+x*1))+y*((0+x*1)+y*1)))+z*(((0+x*(0+x*1))+y*((0+x*1)+y*1))+z*(((0+x*1)+y*1)+z*1)))*(((0+x*(0+x*(0+x*1)))+y*((0+x*(0+x*1))+y*((0+x*1)+y*1)))+z*(((0+x*(0+x*1))+y*((0+x*1)+y*1))+z*(((0+x*1)+y*1)+z*1)))*1+((-1)*(((0+x*1)+y*1)+z*1)*(((0+x*(0+x*(0+x*(0+x*1))))+y*((0+x*(0+x*(0+x*1)))+y*((0+x*(0+x*1))+y*((0+x*1)+y*1))))+z*(((0+x*(0+x*(0+x*1)))+y*((0+x*(0+x*1))+y*((0+x*1)+y*1)))+z*(((0+x*(0+x*1))+y*((0+x*1)+y*1))+z*(((0+x*1)+y*1)+z*1))))*(((0+x*1)+y*1)+z*1)+0)))))) = (1*x^1*y^2*z^3+(1*x^2*y^1*z^3+(2*x^2*y^2*z^2+(1*x^1*y^3*z^2+(1*x^3*y^1*z^2+(1*x^2*y^3*z^1+(1*x^3*y^2*z^1+0))))))) := by grind
theorem ev321 (x y z : Int) : sumv (detTab (row (es x y z) 3 0) (row (es x y z) 2 1) (row (es x y z) 1 2)) = (1*(((0+x*0)+y*(0+x*1))+z*((0+x*1)+y*1))*(((0+x*0)+y*(0+x*0))+z*((0+x*0)+y*(0+x*1)))*(((0+x*1)+y*1)+z*1)+(1*(((0+x*0)+y*(0+x*0))+z*((0+x*0)+y*(0+x*1)))*0*0+(1*(((0+x*1)+y*1)+z*1)*0*1+((-1)*(((0+x*0)+y*(0+x*1))+z*((0+x*1)+y*1))*0*0+((-1)*(((0+x*0)+y*(0+x*0))+z*((0+x*0)+y*(0+x*1)))*(((0+x*0)+y*(0+x*0))+z*((0+x*0)+y*(0+x*1)))*1+((-1)*(((0+x*1)+y*1)+z*1)*0*(((0+x*1)+y*1)+z*1)+0)))))) := by kernel_rfl
theorem ei321 (x y z : Int) : (1*(((0+x*0)+y*(0+x*1))+z*((0+x*1)+y*1))*(((0+x*0)+y*(0+x*0))+z*((0+x*0)+y*(0+x*1)))*(((0+x*1)+y*1)+z*1)+(1*(((0+x*0)+y*(0+x*0))+z*((0+x*0)+y*(0+x*1)))*0*0+(1*(((0+x*1)+y*1)+z*1)*0*1+((-1)*(((0+x*0)+y*(0+x*1))+z*((0+x*1)+y*1))*0*0+((-1)*(((0+x*0)+y*(0+x*0))+z*((0+x*0)+y*(0+x*1)))*(((0+x*0)+y*(0+x*0))+z*((0+x*0)+y*(0+x*1)))*1+((-1)*(((0+x*1)+y*1)+z*1)*0*(((0+x*1)+y*1)+z*1)+0)))))) = (1*x^1*y^2*z^3+(1*x^2*y^1*z^3+(2*x^2*y^2*z^2+(1*x^1*y^3*z^2+(1*x^3*y^1*z^2+(1*x^2*y^3*z^1+(1*x^3*y^2*z^1+0))))))) := by grind
theorem vv321 (x y z : Int) : sumv (detTab (pwRow x 3 2 1) (pwRow y 3 2 1) (pwRow z 3 2 1)) = (1*y^3*x^5*z^1+(1*y^1*x^3*z^5+(1*y^5*x^1*z^3+((-1)*y^3*x^1*z^5+((-1)*y^1*x^5*z^3+((-1)*y^5*x^3*z^1+0)))))) := by kernel_rfl
theorem vi321 (x y z : Int) : (1*y^3*x^5*z^1+(1*y^1*x^3*z^5+(1*y^5*x^1*z^3+((-1)*y^3*x^1*z^5+((-1)*y^1*x^5*z^3+((-1)*y^5*x^3*z^1+0)))))) = (1*x^1*y^2*z^3+(1*x^2*y^1*z^3+(2*x^2*y^2*z^2+(1*x^1*y^3*z^2+(1*x^3*y^1*z^2+(1*x^2*y^3*z^1+(1*x^3*y^2*z^1+0)))))))*(x-y)*(x-z)*(y-z) := by grind
theorem wv322 (x y z : Int) : worthOf [x, y, z] (fillings 3 2 2) = (1*x^2*y^2*z^3+(1*x^2*y^3*z^2+(1*x^3*y^2*z^2+0))) := by kernel_rfl
theorem hv322 (x y z : Int) : sumv (detTab (row (hs x y z) 3 0) (row (hs x y z) 2 1) (row (hs x y z) 2 2)) = (1*(((0+x*(0+x*1))+y*((0+x*1)+y*1))+z*(((0+x*1)+y*1)+z*1))*(((0+x*(0+x*(0+x*1)))+y*((0+x*(0+x*1))+y*((0+x*1)+y*1)))+z*(((0+x*(0+x*1))+y*((0+x*1)+y*1))+z*(((0+x*1)+y*1)+z*1)))*(((0+x*(0+x*1))+y*((0+x*1)+y*1))+z*(((0+x*1)+y*1)+z*1))+(1*(((0+x*(0+x*(0+x*1)))+y*((0+x*(0+x*1))+y*((0+x*1)+y*1)))+z*(((0+x*(0+x*1))+y*((0+x*1)+y*1))+z*(((0+x*1)+y*1)+z*1)))*(((0+x*(0+x*(0+x*(0+x*1))))+y*((0+x*(0+x*(0+x*1)))+y*((0+x*(0+x*1))+y*((0+x*1)+y*1))))+z*(((0+x*(0+x*(0+x*1)))+y*((0+x*(0+x*1))+y*((0+x*1)+y*1)))+z*(((0+x*(0+x*1))+y*((0+x*1)+y*1))+z*(((0+x*1)+y*1)+z*1))))*1+(1*(((0+x*1)+y*1)+z*1)*(((0+x*(0+x*(0+x*(0+x*(0+x*1)))))+y*((0+x*(0+x*(0+x*(0+x*1))))+y*((0+x*(0+x*(0+x*1)))+y*((0+x*(0+x*1))+y*((0+x*1)+y*1)))))+z*(((0+x*(0+x*(0+x*(0+x*1))))+y*((0+x*(0+x*(0+x*1)))+y*((0+x*(0+x*1))+y*((0+x*1)+y*1))))+z*(((0+x*(0+x*(0+x*1)))+y*((0+x*(0+x*1))+y*((0+x*1)+y*1)))+z*(((0+x*(0+x*1))+y*((0+x*1)+y*1))+z*(((0+x*1)+y*1)+z*1)))))*(((0+x*1)+y*1)+z*1)+((-1)*(((0+x*(0+x*1))+y*((0+x*1)+y*1))+z*(((0+x*1)+y*1)+z*1))*(((0+x*(0+x*(0+x*(0+x*(0+x*1)))))+y*((0+x*(0+x*(0+x*(0+x*1))))+y*((0+x*(0+x*(0+x*1)))+y*((0+x*(0+x*1))+y*((0+x*1)+y*1)))))+z*(((0+x*(0+x*(0+x*(0+x*1))))+y*((0+x*(0+x*(0+x*1)))+y*((0+x*(0+x*1))+y*((0+x*1)+y*1))))+z*(((0+x*(0+x*(0+x*1)))+y*((0+x*(0+x*1))+y*((0+x*1)+y*1)))+z*(((0+x*(0+x*1))+y*((0+x*1)+y*1))+z*(((0+x*1)+y*1)+z*1)))))*1+((-1)*(((0+x*(0+x*(0+x*1)))+y*((0+x*(0+x*1))+y*((0+x*1)+y*1)))+z*(((0+x*(0+x*1))+y*((0+x*1)+y*1))+z*(((0+x*1)+y*1)+z*1)))*(((0+x*(0+x*(0+x*1)))+y*((0+x*(0+x*1))+y*((0+x*1)+y*1)))+z*(((0+x*(0+x*1))+y*((0+x*1)+y*1))+z*(((0+x*1)+y*1)+z*1)))*(((0+x*1)+y*1)+z*1)+((-1)*(((0+x*1)+y*1)+z*1)*(((0+x*(0+x*(0+x*(0+x*1))))+y*((0+x*(0+x*(0+x*1)))+y*((0+x*(0+x*1))+y*((0+x*1)+y*1))))+z*(((0+x*(0+x*(0+x*1)))+y*((0+x*(0+x*1))+y*((0+x*1)+y*1)))+z*(((0+x*(0+x*1))+y*((0+x*1)+y*1))+z*(((0+x*1)+y*1)+z*1))))*(((0+x*(0+x*1))+y*((0+x*1)+y*1))+z*(((0+x*1)+y*1)+z*1))+0)))))) := by kernel_rfl
theorem hi322 (x y z : Int) : (1*(((0+x*(0+x*1))+y*((0+x*1)+y*1))+z*(((0+x*1)+y*1)+z*1))*(((0+x*(0+x*(0+x*1)))+y*((0+x*(0+x*1))+y*((0+x*1)+y*1)))+z*(((0+x*(0+x*1))+y*((0+x*1)+y*1))+z*(((0+x*1)+y*1)+z*1)))*(((0+x*(0+x*1))+y*((0+x*1)+y*1))+z*(((0+x*1)+y*1)+z*1))+(1*(((0+x*(0+x*(0+x*1)))+y*((0+x*(0+x*1))+y*((0+x*1)+y*1)))+z*(((0+x*(0+x*1))+y*((0+x*1)+y*1))+z*(((0+x*1)+y*1)+z*1)))*(((0+x*(0+x*(0+x*(0+x*1))))+y*((0+x*(0+x*(0+x*1)))+y*((0+x*(0+x*1))+y*((0+x*1)+y*1))))+z*(((0+x*(0+x*(0+x*1)))+y*((0+x*(0+x*1))+y*((0+x*1)+y*1)))+z*(((0+x*(0+x*1))+y*((0+x*1)+y*1))+z*(((0+x*1)+y*1)+z*1))))*1+(1*(((0+x*1)+y*1)+z*1)*(((0+x*(0+x*(0+x*(0+x*(0+x*1)))))+y*((0+x*(0+x*(0+x*(0+x*1))))+y*((0+x*(0+x*(0+x*1)))+y*((0+x*(0+x*1))+y*((0+x*1)+y*1)))))+z*(((0+x*(0+x*(0+x*(0+x*1))))+y*((0+x*(0+x*(0+x*1)))+y*((0+x*(0+x*1))+y*((0+x*1)+y*1))))+z*(((0+x*(0+x*(0+x*1)))+y*((0+x*(0+x*1))+y*((0+x*1)+y*1)))+z*(((0+x*(0+x*1))+y*((0+x*1)+y*1))+z*(((0+x*1)+y*1)+z*1)))))*(((0+x*1)+y*1)+z*1)+((-1)*(((0+x*(0+x*1))+y*((0+x*1)+y*1))+z*(((0+x*1)+y*1)+z*1))*(((0+x*(0+x*(0+x*(0+x*(0+x*1)))))+y*((0+x*(0+x*(0+x*(0+x*1))))+y*((0+x*(0+x*(0+x*1)))+y*((0+x*(0+x*1))+y*((0+x*1)+y*1)))))+z*(((0+x*(0+x*(0+x*(0+x*1))))+y*((0+x*(0+x*(0+x*1)))+y*((0+x*(0+x*1))+y*((0+x*1)+y*1))))+z*(((0+x*(0+x*(0+x*1)))+y*((0+x*(0+x*1))+y*((0+x*1)+y*1)))+z*(((0+x*(0+x*1))+y*((0+x*1)+y*1))+z*(((0+x*1)+y*1)+z*1)))))*1+((-1)*(((0+x*(0+x*(0+x*1)))+y*((0+x*(0+x*1))+y*((0+x*1)+y*1)))+z*(((0+x*(0+x*1))+y*((0+x*1)+y*1))+z*(((0+x*1)+y*1)+z*1)))*(((0+x*(0+x*(0+x*1)))+y*((0+x*(0+x*1))+y*((0+x*1)+y*1)))+z*(((0+x*(0+x*1))+y*((0+x*1)+y*1))+z*(((0+x*1)+y*1)+z*1)))*(((0+x*1)+y*1)+z*1)+((-1)*(((0+x*1)+y*1)+z*1)*(((0+x*(0+x*(0+x*(0+x*1))))+y*((0+x*(0+x*(0+x*1)))+y*((0+x*(0+x*1))+y*((0+x*1)+y*1))))+z*(((0+x*(0+x*(0+x*1)))+y*((0+x*(0+x*1))+y*((0+x*1)+y*1)))+z*(((0+x*(0+x*1))+y*((0+x*1)+y*1))+z*(((0+x*1)+y*1)+z*1))))*(((0+x*(0+x*1))+y*((0+x*1)+y*1))+z*(((0+x*1)+y*1)+z*1))+0)))))) = (1*x^2*y^2*z^3+(1*x^2*y^3*z^2+(1*x^3*y^2*z^2+0))) := by grind
theorem ev322 (x y z : Int) : sumv (detTab (row (es x y z) 3 0) (row (es x y z) 3 1) (row (es x y z) 1 2)) = (1*(((0+x*0)+y*(0+x*0))+z*((0+x*0)+y*(0+x*1)))*(((0+x*0)+y*(0+x*0))+z*((0+x*0)+y*(0+x*1)))*(((0+x*1)+y*1)+z*1)+(1*0*0*0+(1*(((0+x*0)+y*(0+x*1))+z*((0+x*1)+y*1))*0*1+((-1)*(((0+x*0)+y*(0+x*0))+z*((0+x*0)+y*(0+x*1)))*0*0+((-1)*0*(((0+x*0)+y*(0+x*0))+z*((0+x*0)+y*(0+x*1)))*1+((-1)*(((0+x*0)+y*(0+x*1))+z*((0+x*1)+y*1))*0*(((0+x*1)+y*1)+z*1)+0)))))) := by kernel_rfl
theorem ei322 (x y z : Int) : (1*(((0+x*0)+y*(0+x*0))+z*((0+x*0)+y*(0+x*1)))*(((0+x*0)+y*(0+x*0))+z*((0+x*0)+y*(0+x*1)))*(((0+x*1)+y*1)+z*1)+(1*0*0*0+(1*(((0+x*0)+y*(0+x*1))+z*((0+x*1)+y*1))*0*1+((-1)*(((0+x*0)+y*(0+x*0))+z*((0+x*0)+y*(0+x*1)))*0*0+((-1)*0*(((0+x*0)+y*(0+x*0))+z*((0+x*0)+y*(0+x*1)))*1+((-1)*(((0+x*0)+y*(0+x*1))+z*((0+x*1)+y*1))*0*(((0+x*1)+y*1)+z*1)+0)))))) = (1*x^2*y^2*z^3+(1*x^2*y^3*z^2+(1*x^3*y^2*z^2+0))) := by grind
theorem vv322 (x y z : Int) : sumv (detTab (pwRow x 3 2 2) (pwRow y 3 2 2) (pwRow z 3 2 2)) = (1*y^3*x^5*z^2+(1*y^2*x^3*z^5+(1*y^5*x^2*z^3+((-1)*y^3*x^2*z^5+((-1)*y^2*x^5*z^3+((-1)*y^5*x^3*z^2+0)))))) := by kernel_rfl
theorem vi322 (x y z : Int) : (1*y^3*x^5*z^2+(1*y^2*x^3*z^5+(1*y^5*x^2*z^3+((-1)*y^3*x^2*z^5+((-1)*y^2*x^5*z^3+((-1)*y^5*x^3*z^2+0)))))) = (1*x^2*y^2*z^3+(1*x^2*y^3*z^2+(1*x^3*y^2*z^2+0)))*(x-y)*(x-z)*(y-z) := by grind
theorem wv330 (x y z : Int) : worthOf [x, y, z] (fillings 3 3 0) = (1*x^0*y^3*z^3+(1*x^1*y^2*z^3+(1*x^2*y^1*z^3+(1*x^3*y^0*z^3+(1*x^1*y^3*z^2+(1*x^2*y^2*z^2+(1*x^3*y^1*z^2+(1*x^2*y^3*z^1+(1*x^3*y^2*z^1+(1*x^3*y^3*z^0+0)))))))))) := by kernel_rfl
theorem hv330 (x y z : Int) : sumv (detTab (row (hs x y z) 3 0) (row (hs x y z) 3 1) (row (hs x y z) 0 2)) = (1*(((0+x*(0+x*(0+x*1)))+y*((0+x*(0+x*1))+y*((0+x*1)+y*1)))+z*(((0+x*(0+x*1))+y*((0+x*1)+y*1))+z*(((0+x*1)+y*1)+z*1)))*(((0+x*(0+x*(0+x*1)))+y*((0+x*(0+x*1))+y*((0+x*1)+y*1)))+z*(((0+x*(0+x*1))+y*((0+x*1)+y*1))+z*(((0+x*1)+y*1)+z*1)))*1+(1*(((0+x*(0+x*(0+x*(0+x*1))))+y*((0+x*(0+x*(0+x*1)))+y*((0+x*(0+x*1))+y*((0+x*1)+y*1))))+z*(((0+x*(0+x*(0+x*1)))+y*((0+x*(0+x*1))+y*((0+x*1)+y*1)))+z*(((0+x*(0+x*1))+y*((0+x*1)+y*1))+z*(((0+x*1)+y*1)+z*1))))*(((0+x*(0+x*(0+x*(0+x*1))))+y*((0+x*(0+x*(0+x*1)))+y*((0+x*(0+x*1))+y*((0+x*1)+y*1))))+z*(((0+x*(0+x*(0+x*1)))+y*((0+x*(0+x*1))+y*((0+x*1)+y*1)))+z*(((0+x*(0+x*1))+y*((0+x*1)+y*1))+z*(((0+x*1)+y*1)+z*1))))*0+(1*(((0+x*(0+x*1))+y*((0+x*1)+y*1))+z*(((0+x*1)+y*1)+z*1))*(((0+x*(0+x*(0+x*(0+x*(0+x*1)))))+y*((0+x*(0+x*(0+x*(0+x*1))))+y*((0+x*(0+x*(0+x*1)))+y*((0+x*(0+x*1))+y*((0+x*1)+y*1)))))+z*(((0+x*(0+x*(0+x*(0+x*1))))+y*((0+x*(0+x*(0+x*1)))+y*((0+x*(0+x*1))+y*((0+x*1)+y*1))))+z*(((0+x*(0+x*(0+x*1)))+y*((0+x*(0+x*1))+y*((0+x*1)+y*1)))+z*(((0+x*(0+x*1))+y*((0+x*1)+y*1))+z*(((0+x*1)+y*1)+z*1)))))*0+((-1)*(((0+x*(0+x*(0+x*1)))+y*((0+x*(0+x*1))+y*((0+x*1)+y*1)))+z*(((0+x*(0+x*1))+y*((0+x*1)+y*1))+z*(((0+x*1)+y*1)+z*1)))*(((0+x*(0+x*(0+x*(0+x*(0+x*1)))))+y*((0+x*(0+x*(0+x*(0+x*1))))+y*((0+x*(0+x*(0+x*1)))+y*((0+x*(0+x*1))+y*((0+x*1)+y*1)))))+z*(((0+x*(0+x*(0+x*(0+x*1))))+y*((0+x*(0+x*(0+x*1)))+y*((0+x*(0+x*1))+y*((0+x*1)+y*1))))+z*(((0+x*(0+x*(0+x*1)))+y*((0+x*(0+x*1))+y*((0+x*1)+y*1)))+z*(((0+x*(0+x*1))+y*((0+x*1)+y*1))+z*(((0+x*1)+y*1)+z*1)))))*0+((-1)*(((0+x*(0+x*(0+x*(0+x*1))))+y*((0+x*(0+x*(0+x*1)))+y*((0+x*(0+x*1))+y*((0+x*1)+y*1))))+z*(((0+x*(0+x*(0+x*1)))+y*((0+x*(0+x*1))+y*((0+x*1)+y*1)))+z*(((0+x*(0+x*1))+y*((0+x*1)+y*1))+z*(((0+x*1)+y*1)+z*1))))*(((0+x*(0+x*(0+x*1)))+y*((0+x*(0+x*1))+y*((0+x*1)+y*1)))+z*(((0+x*(0+x*1))+y*((0+x*1)+y*1))+z*(((0+x*1)+y*1)+z*1)))*0+((-1)*(((0+x*(0+x*1))+y*((0+x*1)+y*1))+z*(((0+x*1)+y*1)+z*1))*(((0+x*(0+x*(0+x*(0+x*1))))+y*((0+x*(0+x*(0+x*1)))+y*((0+x*(0+x*1))+y*((0+x*1)+y*1))))+z*(((0+x*(0+x*(0+x*1)))+y*((0+x*(0+x*1))+y*((0+x*1)+y*1)))+z*(((0+x*(0+x*1))+y*((0+x*1)+y*1))+z*(((0+x*1)+y*1)+z*1))))*1+0)))))) := by kernel_rfl
theorem hi330 (x y z : Int) : (1*(((0+x*(0+x*(0+x*1)))+y*((0+x*(0+x*1))+y*((0+x*1)+y*1)))+z*(((0+x*(0+x*1))+y*((0+x*1)+y*1))+z*(((0+x*1)+y*1)+z*1)))*(((0+x*(0+x*(0+x*1)))+y*((0+x*(0+x*1))+y*((0+x*1)+y*1)))+z*(((0+x*(0+x*1))+y*((0+x*1)+y*1))+z*(((0+x*1)+y*1)+z*1)))*1+(1*(((0+x*(0+x*(0+x*(0+x*1))))+y*((0+x*(0+x*(0+x*1)))+y*((0+x*(0+x*1))+y*((0+x*1)+y*1))))+z*(((0+x*(0+x*(0+x*1)))+y*((0+x*(0+x*1))+y*((0+x*1)+y*1)))+z*(((0+x*(0+x*1))+y*((0+x*1)+y*1))+z*(((0+x*1)+y*1)+z*1))))*(((0+x*(0+x*(0+x*(0+x*1))))+y*((0+x*(0+x*(0+x*1)))+y*((0+x*(0+x*1))+y*((0+x*1)+y*1))))+z*(((0+x*(0+x*(0+x*1)))+y*((0+x*(0+x*1))+y*((0+x*1)+y*1)))+z*(((0+x*(0+x*1))+y*((0+x*1)+y*1))+z*(((0+x*1)+y*1)+z*1))))*0+(1*(((0+x*(0+x*1))+y*((0+x*1)+y*1))+z*(((0+x*1)+y*1)+z*1))*(((0+x*(0+x*(0+x*(0+x*(0+x*1)))))+y*((0+x*(0+x*(0+x*(0+x*1))))+y*((0+x*(0+x*(0+x*1)))+y*((0+x*(0+x*1))+y*((0+x*1)+y*1)))))+z*(((0+x*(0+x*(0+x*(0+x*1))))+y*((0+x*(0+x*(0+x*1)))+y*((0+x*(0+x*1))+y*((0+x*1)+y*1))))+z*(((0+x*(0+x*(0+x*1)))+y*((0+x*(0+x*1))+y*((0+x*1)+y*1)))+z*(((0+x*(0+x*1))+y*((0+x*1)+y*1))+z*(((0+x*1)+y*1)+z*1)))))*0+((-1)*(((0+x*(0+x*(0+x*1)))+y*((0+x*(0+x*1))+y*((0+x*1)+y*1)))+z*(((0+x*(0+x*1))+y*((0+x*1)+y*1))+z*(((0+x*1)+y*1)+z*1)))*(((0+x*(0+x*(0+x*(0+x*(0+x*1)))))+y*((0+x*(0+x*(0+x*(0+x*1))))+y*((0+x*(0+x*(0+x*1)))+y*((0+x*(0+x*1))+y*((0+x*1)+y*1)))))+z*(((0+x*(0+x*(0+x*(0+x*1))))+y*((0+x*(0+x*(0+x*1)))+y*((0+x*(0+x*1))+y*((0+x*1)+y*1))))+z*(((0+x*(0+x*(0+x*1)))+y*((0+x*(0+x*1))+y*((0+x*1)+y*1)))+z*(((0+x*(0+x*1))+y*((0+x*1)+y*1))+z*(((0+x*1)+y*1)+z*1)))))*0+((-1)*(((0+x*(0+x*(0+x*(0+x*1))))+y*((0+x*(0+x*(0+x*1)))+y*((0+x*(0+x*1))+y*((0+x*1)+y*1))))+z*(((0+x*(0+x*(0+x*1)))+y*((0+x*(0+x*1))+y*((0+x*1)+y*1)))+z*(((0+x*(0+x*1))+y*((0+x*1)+y*1))+z*(((0+x*1)+y*1)+z*1))))*(((0+x*(0+x*(0+x*1)))+y*((0+x*(0+x*1))+y*((0+x*1)+y*1)))+z*(((0+x*(0+x*1))+y*((0+x*1)+y*1))+z*(((0+x*1)+y*1)+z*1)))*0+((-1)*(((0+x*(0+x*1))+y*((0+x*1)+y*1))+z*(((0+x*1)+y*1)+z*1))*(((0+x*(0+x*(0+x*(0+x*1))))+y*((0+x*(0+x*(0+x*1)))+y*((0+x*(0+x*1))+y*((0+x*1)+y*1))))+z*(((0+x*(0+x*(0+x*1)))+y*((0+x*(0+x*1))+y*((0+x*1)+y*1)))+z*(((0+x*(0+x*1))+y*((0+x*1)+y*1))+z*(((0+x*1)+y*1)+z*1))))*1+0)))))) = (1*x^0*y^3*z^3+(1*x^1*y^2*z^3+(1*x^2*y^1*z^3+(1*x^3*y^0*z^3+(1*x^1*y^3*z^2+(1*x^2*y^2*z^2+(1*x^3*y^1*z^2+(1*x^2*y^3*z^1+(1*x^3*y^2*z^1+(1*x^3*y^3*z^0+0)))))))))) := by grind
theorem ev330 (x y z : Int) : sumv (detTab (row (es x y z) 2 0) (row (es x y z) 2 1) (row (es x y z) 2 2)) = (1*(((0+x*0)+y*(0+x*1))+z*((0+x*1)+y*1))*(((0+x*0)+y*(0+x*1))+z*((0+x*1)+y*1))*(((0+x*0)+y*(0+x*1))+z*((0+x*1)+y*1))+(1*(((0+x*0)+y*(0+x*0))+z*((0+x*0)+y*(0+x*1)))*(((0+x*0)+y*(0+x*0))+z*((0+x*0)+y*(0+x*1)))*1+(1*(((0+x*1)+y*1)+z*1)*0*(((0+x*1)+y*1)+z*1)+((-1)*(((0+x*0)+y*(0+x*1))+z*((0+x*1)+y*1))*0*1+((-1)*(((0+x*0)+y*(0+x*0))+z*((0+x*0)+y*(0+x*1)))*(((0+x*0)+y*(0+x*1))+z*((0+x*1)+y*1))*(((0+x*1)+y*1)+z*1)+((-1)*(((0+x*1)+y*1)+z*1)*(((0+x*0)+y*(0+x*0))+z*((0+x*0)+y*(0+x*1)))*(((0+x*0)+y*(0+x*1))+z*((0+x*1)+y*1))+0)))))) := by kernel_rfl
theorem ei330 (x y z : Int) : (1*(((0+x*0)+y*(0+x*1))+z*((0+x*1)+y*1))*(((0+x*0)+y*(0+x*1))+z*((0+x*1)+y*1))*(((0+x*0)+y*(0+x*1))+z*((0+x*1)+y*1))+(1*(((0+x*0)+y*(0+x*0))+z*((0+x*0)+y*(0+x*1)))*(((0+x*0)+y*(0+x*0))+z*((0+x*0)+y*(0+x*1)))*1+(1*(((0+x*1)+y*1)+z*1)*0*(((0+x*1)+y*1)+z*1)+((-1)*(((0+x*0)+y*(0+x*1))+z*((0+x*1)+y*1))*0*1+((-1)*(((0+x*0)+y*(0+x*0))+z*((0+x*0)+y*(0+x*1)))*(((0+x*0)+y*(0+x*1))+z*((0+x*1)+y*1))*(((0+x*1)+y*1)+z*1)+((-1)*(((0+x*1)+y*1)+z*1)*(((0+x*0)+y*(0+x*0))+z*((0+x*0)+y*(0+x*1)))*(((0+x*0)+y*(0+x*1))+z*((0+x*1)+y*1))+0)))))) = (1*x^0*y^3*z^3+(1*x^1*y^2*z^3+(1*x^2*y^1*z^3+(1*x^3*y^0*z^3+(1*x^1*y^3*z^2+(1*x^2*y^2*z^2+(1*x^3*y^1*z^2+(1*x^2*y^3*z^1+(1*x^3*y^2*z^1+(1*x^3*y^3*z^0+0)))))))))) := by grind
theorem vv330 (x y z : Int) : sumv (detTab (pwRow x 3 3 0) (pwRow y 3 3 0) (pwRow z 3 3 0)) = (1*y^4*x^5*z^0+(1*y^0*x^4*z^5+(1*y^5*x^0*z^4+((-1)*y^4*x^0*z^5+((-1)*y^0*x^5*z^4+((-1)*y^5*x^4*z^0+0)))))) := by kernel_rfl
theorem vi330 (x y z : Int) : (1*y^4*x^5*z^0+(1*y^0*x^4*z^5+(1*y^5*x^0*z^4+((-1)*y^4*x^0*z^5+((-1)*y^0*x^5*z^4+((-1)*y^5*x^4*z^0+0)))))) = (1*x^0*y^3*z^3+(1*x^1*y^2*z^3+(1*x^2*y^1*z^3+(1*x^3*y^0*z^3+(1*x^1*y^3*z^2+(1*x^2*y^2*z^2+(1*x^3*y^1*z^2+(1*x^2*y^3*z^1+(1*x^3*y^2*z^1+(1*x^3*y^3*z^0+0))))))))))*(x-y)*(x-z)*(y-z) := by grind
theorem wv331 (x y z : Int) : worthOf [x, y, z] (fillings 3 3 1) = (1*x^1*y^3*z^3+(1*x^2*y^2*z^3+(1*x^3*y^1*z^3+(1*x^2*y^3*z^2+(1*x^3*y^2*z^2+(1*x^3*y^3*z^1+0)))))) := by kernel_rfl
theorem hv331 (x y z : Int) : sumv (detTab (row (hs x y z) 3 0) (row (hs x y z) 3 1) (row (hs x y z) 1 2)) = (1*(((0+x*(0+x*(0+x*1)))+y*((0+x*(0+x*1))+y*((0+x*1)+y*1)))+z*(((0+x*(0+x*1))+y*((0+x*1)+y*1))+z*(((0+x*1)+y*1)+z*1)))*(((0+x*(0+x*(0+x*1)))+y*((0+x*(0+x*1))+y*((0+x*1)+y*1)))+z*(((0+x*(0+x*1))+y*((0+x*1)+y*1))+z*(((0+x*1)+y*1)+z*1)))*(((0+x*1)+y*1)+z*1)+(1*(((0+x*(0+x*(0+x*(0+x*1))))+y*((0+x*(0+x*(0+x*1)))+y*((0+x*(0+x*1))+y*((0+x*1)+y*1))))+z*(((0+x*(0+x*(0+x*1)))+y*((0+x*(0+x*1))+y*((0+x*1)+y*1)))+z*(((0+x*(0+x*1))+y*((0+x*1)+y*1))+z*(((0+x*1)+y*1)+z*1))))*(((0+x*(0+x*(0+x*(0+x*1))))+y*((0+x*(0+x*(0+x*1)))+y*((0+x*(0+x*1))+y*((0+x*1)+y*1))))+z*(((0+x*(0+x*(0+x*1)))+y*((0+x*(0+x*1))+y*((0+x*1)+y*1)))+z*(((0+x*(0+x*1))+y*((0+x*1)+y*1))+z*(((0+x*1)+y*1)+z*1))))*0+(1*(((0+x*(0+x*1))+y*((0+x*1)+y*1))+z*(((0+x*1)+y*1)+z*1))*(((0+x*(0+x*(0+x*(0+x*(0+x*1)))))+y*((0+x*(0+x*(0+x*(0+x*1))))+y*((0+x*(0+x*(0+x*1)))+y*((0+x*(0+x*1))+y*((0+x*1)+y*1)))))+z*(((0+x*(0+x*(0+x*(0+x*1))))+y*((0+x*(0+x*(0+x*1)))+y*((0+x*(0+x*1))+y*((0+x*1)+y*1))))+z*(((0+x*(0+x*(0+x*1)))+y*((0+x*(0+x*1))+y*((0+x*1)+y*1)))+z*(((0+x*(0+x*1))+y*((0+x*1)+y*1))+z*(((0+x*1)+y*1)+z*1)))))*1+((-1)*(((0+x*(0+x*(0+x*1)))+y*((0+x*(0+x*1))+y*((0+x*1)+y*1)))+z*(((0+x*(0+x*1))+y*((0+x*1)+y*1))+z*(((0+x*1)+y*1)+z*1)))*(((0+x*(0+x*(0+x*(0+x*(0+x*1)))))+y*((0+x*(0+x*(0+x*(0+x*1))))+y*((0+x*(0+x*(0+x*1)))+y*((0+x*(0+x*1))+y*((0+x*1)+y*1)))))+z*(((0+x*(0+x*(0+x*(0+x*1))))+y*((0+x*(0+x*(0+x*1)))+y*((0+x*(0+x*1))+y*((0+x*1)+y*1))))+z*(((0+x*(0+x*(0+x*1)))+y*((0+x*(0+x*1))+y*((0+x*1)+y*1)))+z*(((0+x*(0+x*1))+y*((0+x*1)+y*1))+z*(((0+x*1)+y*1)+z*1)))))*0+((-1)*(((0+x*(0+x*(0+x*(0+x*1))))+y*((0+x*(0+x*(0+x*1)))+y*((0+x*(0+x*1))+y*((0+x*1)+y*1))))+z*(((0+x*(0+x*(0+x*1)))+y*((0+x*(0+x*1))+y*((0+x*1)+y*1)))+z*(((0+x*(0+x*1))+y*((0+x*1)+y*1))+z*(((0+x*1)+y*1)+z*1))))*(((0+x*(0+x*(0+x*1)))+y*((0+x*(0+x*1))+y*((0+x*1)+y*1)))+z*(((0+x*(0+x*1))+y*((0+x*1)+y*1))+z*(((0+x*1)+y*1)+z*1)))*1+((-1)*(((0+x*(0+x*1))+y*((0+x*1)+y*1))+z*(((0+x*1)+y*1)+z*1))*(((0+x*(0+x*(0+x*(0+x*1))))+y*((0+x*(0+x*(0+x*1)))+y*((0+x*(0+x*1))+y*((0+x*1)+y*1))))+z*(((0+x*(0+x*(0+x*1)))+y*((0+x*(0+x*1))+y*((0+x*1)+y*1)))+z*(((0+x*(0+x*1))+y*((0+x*1)+y*1))+z*(((0+x*1)+y*1)+z*1))))*(((0+x*1)+y*1)+z*1)+0)))))) := by kernel_rfl
theorem hi331 (x y z : Int) : (1*(((0+x*(0+x*(0+x*1)))+y*((0+x*(0+x*1))+y*((0+x*1)+y*1)))+z*(((0+x*(0+x*1))+y*((0+x*1)+y*1))+z*(((0+x*1)+y*1)+z*1)))*(((0+x*(0+x*(0+x*1)))+y*((0+x*(0+x*1))+y*((0+x*1)+y*1)))+z*(((0+x*(0+x*1))+y*((0+x*1)+y*1))+z*(((0+x*1)+y*1)+z*1)))*(((0+x*1)+y*1)+z*1)+(1*(((0+x*(0+x*(0+x*(0+x*1))))+y*((0+x*(0+x*(0+x*1)))+y*((0+x*(0+x*1))+y*((0+x*1)+y*1))))+z*(((0+x*(0+x*(0+x*1)))+y*((0+x*(0+x*1))+y*((0+x*1)+y*1)))+z*(((0+x*(0+x*1))+y*((0+x*1)+y*1))+z*(((0+x*1)+y*1)+z*1))))*(((0+x*(0+x*(0+x*(0+x*1))))+y*((0+x*(0+x*(0+x*1)))+y*((0+x*(0+x*1))+y*((0+x*1)+y*1))))+z*(((0+x*(0+x*(0+x*1)))+y*((0+x*(0+x*1))+y*((0+x*1)+y*1)))+z*(((0+x*(0+x*1))+y*((0+x*1)+y*1))+z*(((0+x*1)+y*1)+z*1))))*0+(1*(((0+x*(0+x*1))+y*((0+x*1)+y*1))+z*(((0+x*1)+y*1)+z*1))*(((0+x*(0+x*(0+x*(0+x*(0+x*1)))))+y*((0+x*(0+x*(0+x*(0+x*1))))+y*((0+x*(0+x*(0+x*1)))+y*((0+x*(0+x*1))+y*((0+x*1)+y*1)))))+z*(((0+x*(0+x*(0+x*(0+x*1))))+y*((0+x*(0+x*(0+x*1)))+y*((0+x*(0+x*1))+y*((0+x*1)+y*1))))+z*(((0+x*(0+x*(0+x*1)))+y*((0+x*(0+x*1))+y*((0+x*1)+y*1)))+z*(((0+x*(0+x*1))+y*((0+x*1)+y*1))+z*(((0+x*1)+y*1)+z*1)))))*1+((-1)*(((0+x*(0+x*(0+x*1)))+y*((0+x*(0+x*1))+y*((0+x*1)+y*1)))+z*(((0+x*(0+x*1))+y*((0+x*1)+y*1))+z*(((0+x*1)+y*1)+z*1)))*(((0+x*(0+x*(0+x*(0+x*(0+x*1)))))+y*((0+x*(0+x*(0+x*(0+x*1))))+y*((0+x*(0+x*(0+x*1)))+y*((0+x*(0+x*1))+y*((0+x*1)+y*1)))))+z*(((0+x*(0+x*(0+x*(0+x*1))))+y*((0+x*(0+x*(0+x*1)))+y*((0+x*(0+x*1))+y*((0+x*1)+y*1))))+z*(((0+x*(0+x*(0+x*1)))+y*((0+x*(0+x*1))+y*((0+x*1)+y*1)))+z*(((0+x*(0+x*1))+y*((0+x*1)+y*1))+z*(((0+x*1)+y*1)+z*1)))))*0+((-1)*(((0+x*(0+x*(0+x*(0+x*1))))+y*((0+x*(0+x*(0+x*1)))+y*((0+x*(0+x*1))+y*((0+x*1)+y*1))))+z*(((0+x*(0+x*(0+x*1)))+y*((0+x*(0+x*1))+y*((0+x*1)+y*1)))+z*(((0+x*(0+x*1))+y*((0+x*1)+y*1))+z*(((0+x*1)+y*1)+z*1))))*(((0+x*(0+x*(0+x*1)))+y*((0+x*(0+x*1))+y*((0+x*1)+y*1)))+z*(((0+x*(0+x*1))+y*((0+x*1)+y*1))+z*(((0+x*1)+y*1)+z*1)))*1+((-1)*(((0+x*(0+x*1))+y*((0+x*1)+y*1))+z*(((0+x*1)+y*1)+z*1))*(((0+x*(0+x*(0+x*(0+x*1))))+y*((0+x*(0+x*(0+x*1)))+y*((0+x*(0+x*1))+y*((0+x*1)+y*1))))+z*(((0+x*(0+x*(0+x*1)))+y*((0+x*(0+x*1))+y*((0+x*1)+y*1)))+z*(((0+x*(0+x*1))+y*((0+x*1)+y*1))+z*(((0+x*1)+y*1)+z*1))))*(((0+x*1)+y*1)+z*1)+0)))))) = (1*x^1*y^3*z^3+(1*x^2*y^2*z^3+(1*x^3*y^1*z^3+(1*x^2*y^3*z^2+(1*x^3*y^2*z^2+(1*x^3*y^3*z^1+0)))))) := by grind
theorem ev331 (x y z : Int) : sumv (detTab (row (es x y z) 3 0) (row (es x y z) 2 1) (row (es x y z) 2 2)) = (1*(((0+x*0)+y*(0+x*1))+z*((0+x*1)+y*1))*(((0+x*0)+y*(0+x*0))+z*((0+x*0)+y*(0+x*1)))*(((0+x*0)+y*(0+x*1))+z*((0+x*1)+y*1))+(1*(((0+x*0)+y*(0+x*0))+z*((0+x*0)+y*(0+x*1)))*0*1+(1*(((0+x*1)+y*1)+z*1)*0*(((0+x*1)+y*1)+z*1)+((-1)*(((0+x*0)+y*(0+x*1))+z*((0+x*1)+y*1))*0*1+((-1)*(((0+x*0)+y*(0+x*0))+z*((0+x*0)+y*(0+x*1)))*(((0+x*0)+y*(0+x*0))+z*((0+x*0)+y*(0+x*1)))*(((0+x*1)+y*1)+z*1)+((-1)*(((0+x*1)+y*1)+z*1)*0*(((0+x*0)+y*(0+x*1))+z*((0+x*1)+y*1))+0)))))) := by kernel_rfl
theorem ei331 (x y z : Int) : (1*(((0+x*0)+y*(0+x*1))+z*((0+x*1)+y*1))*(((0+x*0)+y*(0+x*0))+z*((0+x*0)+y*(0+x*1)))*(((0+x*0)+y*(0+x*1))+z*((0+x*1)+y*1))+(1*(((0+x*0)+y*(0+x*0))+z*((0+x*0)+y*(0+x*1)))*0*1+(1*(((0+x*1)+y*1)+z*1)*0*(((0+x*1)+y*1)+z*1)+((-1)*(((0+x*0)+y*(0+x*1))+z*((0+x*1)+y*1))*0*1+((-1)*(((0+x*0)+y*(0+x*0))+z*((0+x*0)+y*(0+x*1)))*(((0+x*0)+y*(0+x*0))+z*((0+x*0)+y*(0+x*1)))*(((0+x*1)+y*1)+z*1)+((-1)*(((0+x*1)+y*1)+z*1)*0*(((0+x*0)+y*(0+x*1))+z*((0+x*1)+y*1))+0)))))) = (1*x^1*y^3*z^3+(1*x^2*y^2*z^3+(1*x^3*y^1*z^3+(1*x^2*y^3*z^2+(1*x^3*y^2*z^2+(1*x^3*y^3*z^1+0)))))) := by grind
theorem vv331 (x y z : Int) : sumv (detTab (pwRow x 3 3 1) (pwRow y 3 3 1) (pwRow z 3 3 1)) = (1*y^4*x^5*z^1+(1*y^1*x^4*z^5+(1*y^5*x^1*z^4+((-1)*y^4*x^1*z^5+((-1)*y^1*x^5*z^4+((-1)*y^5*x^4*z^1+0)))))) := by kernel_rfl
theorem vi331 (x y z : Int) : (1*y^4*x^5*z^1+(1*y^1*x^4*z^5+(1*y^5*x^1*z^4+((-1)*y^4*x^1*z^5+((-1)*y^1*x^5*z^4+((-1)*y^5*x^4*z^1+0)))))) = (1*x^1*y^3*z^3+(1*x^2*y^2*z^3+(1*x^3*y^1*z^3+(1*x^2*y^3*z^2+(1*x^3*y^2*z^2+(1*x^3*y^3*z^1+0))))))*(x-y)*(x-z)*(y-z) := by grind
theorem wv332 (x y z : Int) : worthOf [x, y, z] (fillings 3 3 2) = (1*x^2*y^3*z^3+(1*x^3*y^2*z^3+(1*x^3*y^3*z^2+0))) := by kernel_rfl
theorem hv332 (x y z : Int) : sumv (detTab (row (hs x y z) 3 0) (row (hs x y z) 3 1) (row (hs x y z) 2 2)) = (1*(((0+x*(0+x*(0+x*1)))+y*((0+x*(0+x*1))+y*((0+x*1)+y*1)))+z*(((0+x*(0+x*1))+y*((0+x*1)+y*1))+z*(((0+x*1)+y*1)+z*1)))*(((0+x*(0+x*(0+x*1)))+y*((0+x*(0+x*1))+y*((0+x*1)+y*1)))+z*(((0+x*(0+x*1))+y*((0+x*1)+y*1))+z*(((0+x*1)+y*1)+z*1)))*(((0+x*(0+x*1))+y*((0+x*1)+y*1))+z*(((0+x*1)+y*1)+z*1))+(1*(((0+x*(0+x*(0+x*(0+x*1))))+y*((0+x*(0+x*(0+x*1)))+y*((0+x*(0+x*1))+y*((0+x*1)+y*1))))+z*(((0+x*(0+x*(0+x*1)))+y*((0+x*(0+x*1))+y*((0+x*1)+y*1)))+z*(((0+x*(0+x*1))+y*((0+x*1)+y*1))+z*(((0+x*1)+y*1)+z*1))))*(((0+x*(0+x*(0+x*(0+x*1))))+y*((0+x*(0+x*(0+x*1)))+y*((0+x*(0+x*1))+y*((0+x*1)+y*1))))+z*(((0+x*(0+x*(0+x*1)))+y*((0+x*(0+x*1))+y*((0+x*1)+y*1)))+z*(((0+x*(0+x*1))+y*((0+x*1)+y*1))+z*(((0+x*1)+y*1)+z*1))))*1+(1*(((0+x*(0+x*1))+y*((0+x*1)+y*1))+z*(((0+x*1)+y*1)+z*1))*(((0+x*(0+x*(0+x*(0+x*(0+x*1)))))+y*((0+x*(0+x*(0+x*(0+x*1))))+y*((0+x*(0+x*(0+x*1)))+y*((0+x*(0+x*1))+y*((0+x*1)+y*1)))))+z*(((0+x*(0+x*(0+x*(0+x*1))))+y*((0+x*(0+x*(0+x*1)))+y*((0+x*(0+x*1))+y*((0+x*1)+y*1))))+z*(((0+x*(0+x*(0+x*1)))+y*((0+x*(0+x*1))+y*((0+x*1)+y*1)))+z*(((0+x*(0+x*1))+y*((0+x*1)+y*1))+z*(((0+x*1)+y*1)+z*1)))))*(((0+x*1)+y*1)+z*1)+((-1)*(((0+x*(0+x*(0+x*1)))+y*((0+x*(0+x*1))+y*((0+x*1)+y*1)))+z*(((0+x*(0+x*1))+y*((0+x*1)+y*1))+z*(((0+x*1)+y*1)+z*1)))*(((0+x*(0+x*(0+x*(0+x*(0+x*1)))))+y*((0+x*(0+x*(0+x*(0+x*1))))+y*((0+x*(0+x*(0+x*1)))+y*((0+x*(0+x*1))+y*((0+x*1)+y*1)))))+z*(((0+x*(0+x*(0+x*(0+x*1))))+y*((0+x*(0+x*(0+x*1)))+y*((0+x*(0+x*1))+y*((0+x*1)+y*1))))+z*(((0+x*(0+x*(0+x*1)))+y*((0+x*(0+x*1))+y*((0+x*1)+y*1)))+z*(((0+x*(0+x*1))+y*((0+x*1)+y*1))+z*(((0+x*1)+y*1)+z*1)))))*1+((-1)*(((0+x*(0+x*(0+x*(0+x*1))))+y*((0+x*(0+x*(0+x*1)))+y*((0+x*(0+x*1))+y*((0+x*1)+y*1))))+z*(((0+x*(0+x*(0+x*1)))+y*((0+x*(0+x*1))+y*((0+x*1)+y*1)))+z*(((0+x*(0+x*1))+y*((0+x*1)+y*1))+z*(((0+x*1)+y*1)+z*1))))*(((0+x*(0+x*(0+x*1)))+y*((0+x*(0+x*1))+y*((0+x*1)+y*1)))+z*(((0+x*(0+x*1))+y*((0+x*1)+y*1))+z*(((0+x*1)+y*1)+z*1)))*(((0+x*1)+y*1)+z*1)+((-1)*(((0+x*(0+x*1))+y*((0+x*1)+y*1))+z*(((0+x*1)+y*1)+z*1))*(((0+x*(0+x*(0+x*(0+x*1))))+y*((0+x*(0+x*(0+x*1)))+y*((0+x*(0+x*1))+y*((0+x*1)+y*1))))+z*(((0+x*(0+x*(0+x*1)))+y*((0+x*(0+x*1))+y*((0+x*1)+y*1)))+z*(((0+x*(0+x*1))+y*((0+x*1)+y*1))+z*(((0+x*1)+y*1)+z*1))))*(((0+x*(0+x*1))+y*((0+x*1)+y*1))+z*(((0+x*1)+y*1)+z*1))+0)))))) := by kernel_rfl
theorem hi332 (x y z : Int) : (1*(((0+x*(0+x*(0+x*1)))+y*((0+x*(0+x*1))+y*((0+x*1)+y*1)))+z*(((0+x*(0+x*1))+y*((0+x*1)+y*1))+z*(((0+x*1)+y*1)+z*1)))*(((0+x*(0+x*(0+x*1)))+y*((0+x*(0+x*1))+y*((0+x*1)+y*1)))+z*(((0+x*(0+x*1))+y*((0+x*1)+y*1))+z*(((0+x*1)+y*1)+z*1)))*(((0+x*(0+x*1))+y*((0+x*1)+y*1))+z*(((0+x*1)+y*1)+z*1))+(1*(((0+x*(0+x*(0+x*(0+x*1))))+y*((0+x*(0+x*(0+x*1)))+y*((0+x*(0+x*1))+y*((0+x*1)+y*1))))+z*(((0+x*(0+x*(0+x*1)))+y*((0+x*(0+x*1))+y*((0+x*1)+y*1)))+z*(((0+x*(0+x*1))+y*((0+x*1)+y*1))+z*(((0+x*1)+y*1)+z*1))))*(((0+x*(0+x*(0+x*(0+x*1))))+y*((0+x*(0+x*(0+x*1)))+y*((0+x*(0+x*1))+y*((0+x*1)+y*1))))+z*(((0+x*(0+x*(0+x*1)))+y*((0+x*(0+x*1))+y*((0+x*1)+y*1)))+z*(((0+x*(0+x*1))+y*((0+x*1)+y*1))+z*(((0+x*1)+y*1)+z*1))))*1+(1*(((0+x*(0+x*1))+y*((0+x*1)+y*1))+z*(((0+x*1)+y*1)+z*1))*(((0+x*(0+x*(0+x*(0+x*(0+x*1)))))+y*((0+x*(0+x*(0+x*(0+x*1))))+y*((0+x*(0+x*(0+x*1)))+y*((0+x*(0+x*1))+y*((0+x*1)+y*1)))))+z*(((0+x*(0+x*(0+x*(0+x*1))))+y*((0+x*(0+x*(0+x*1)))+y*((0+x*(0+x*1))+y*((0+x*1)+y*1))))+z*(((0+x*(0+x*(0+x*1)))+y*((0+x*(0+x*1))+y*((0+x*1)+y*1)))+z*(((0+x*(0+x*1))+y*((0+x*1)+y*1))+z*(((0+x*1)+y*1)+z*1)))))*(((0+x*1)+y*1)+z*1)+((-1)*(((0+x*(0+x*(0+x*1)))+y*((0+x*(0+x*1))+y*((0+x*1)+y*1)))+z*(((0+x*(0+x*1))+y*((0+x*1)+y*1))+z*(((0+x*1)+y*1)+z*1)))*(((0+x*(0+x*(0+x*(0+x*(0+x*1)))))+y*((0+x*(0+x*(0+x*(0+x*1))))+y*((0+x*(0+x*(0+x*1)))+y*((0+x*(0+x*1))+y*((0+x*1)+y*1)))))+z*(((0+x*(0+x*(0+x*(0+x*1))))+y*((0+x*(0+x*(0+x*1)))+y*((0+x*(0+x*1))+y*((0+x*1)+y*1))))+z*(((0+x*(0+x*(0+x*1)))+y*((0+x*(0+x*1))+y*((0+x*1)+y*1)))+z*(((0+x*(0+x*1))+y*((0+x*1)+y*1))+z*(((0+x*1)+y*1)+z*1)))))*1+((-1)*(((0+x*(0+x*(0+x*(0+x*1))))+y*((0+x*(0+x*(0+x*1)))+y*((0+x*(0+x*1))+y*((0+x*1)+y*1))))+z*(((0+x*(0+x*(0+x*1)))+y*((0+x*(0+x*1))+y*((0+x*1)+y*1)))+z*(((0+x*(0+x*1))+y*((0+x*1)+y*1))+z*(((0+x*1)+y*1)+z*1))))*(((0+x*(0+x*(0+x*1)))+y*((0+x*(0+x*1))+y*((0+x*1)+y*1)))+z*(((0+x*(0+x*1))+y*((0+x*1)+y*1))+z*(((0+x*1)+y*1)+z*1)))*(((0+x*1)+y*1)+z*1)+((-1)*(((0+x*(0+x*1))+y*((0+x*1)+y*1))+z*(((0+x*1)+y*1)+z*1))*(((0+x*(0+x*(0+x*(0+x*1))))+y*((0+x*(0+x*(0+x*1)))+y*((0+x*(0+x*1))+y*((0+x*1)+y*1))))+z*(((0+x*(0+x*(0+x*1)))+y*((0+x*(0+x*1))+y*((0+x*1)+y*1)))+z*(((0+x*(0+x*1))+y*((0+x*1)+y*1))+z*(((0+x*1)+y*1)+z*1))))*(((0+x*(0+x*1))+y*((0+x*1)+y*1))+z*(((0+x*1)+y*1)+z*1))+0)))))) = (1*x^2*y^3*z^3+(1*x^3*y^2*z^3+(1*x^3*y^3*z^2+0))) := by grind
theorem ev332 (x y z : Int) : sumv (detTab (row (es x y z) 3 0) (row (es x y z) 3 1) (row (es x y z) 2 2)) = (1*(((0+x*0)+y*(0+x*0))+z*((0+x*0)+y*(0+x*1)))*(((0+x*0)+y*(0+x*0))+z*((0+x*0)+y*(0+x*1)))*(((0+x*0)+y*(0+x*1))+z*((0+x*1)+y*1))+(1*0*0*1+(1*(((0+x*0)+y*(0+x*1))+z*((0+x*1)+y*1))*0*(((0+x*1)+y*1)+z*1)+((-1)*(((0+x*0)+y*(0+x*0))+z*((0+x*0)+y*(0+x*1)))*0*1+((-1)*0*(((0+x*0)+y*(0+x*0))+z*((0+x*0)+y*(0+x*1)))*(((0+x*1)+y*1)+z*1)+((-1)*(((0+x*0)+y*(0+x*1))+z*((0+x*1)+y*1))*0*(((0+x*0)+y*(0+x*1))+z*((0+x*1)+y*1))+0)))))) := by kernel_rfl
theorem ei332 (x y z : Int) : (1*(((0+x*0)+y*(0+x*0))+z*((0+x*0)+y*(0+x*1)))*(((0+x*0)+y*(0+x*0))+z*((0+x*0)+y*(0+x*1)))*(((0+x*0)+y*(0+x*1))+z*((0+x*1)+y*1))+(1*0*0*1+(1*(((0+x*0)+y*(0+x*1))+z*((0+x*1)+y*1))*0*(((0+x*1)+y*1)+z*1)+((-1)*(((0+x*0)+y*(0+x*0))+z*((0+x*0)+y*(0+x*1)))*0*1+((-1)*0*(((0+x*0)+y*(0+x*0))+z*((0+x*0)+y*(0+x*1)))*(((0+x*1)+y*1)+z*1)+((-1)*(((0+x*0)+y*(0+x*1))+z*((0+x*1)+y*1))*0*(((0+x*0)+y*(0+x*1))+z*((0+x*1)+y*1))+0)))))) = (1*x^2*y^3*z^3+(1*x^3*y^2*z^3+(1*x^3*y^3*z^2+0))) := by grind
theorem vv332 (x y z : Int) : sumv (detTab (pwRow x 3 3 2) (pwRow y 3 3 2) (pwRow z 3 3 2)) = (1*y^4*x^5*z^2+(1*y^2*x^4*z^5+(1*y^5*x^2*z^4+((-1)*y^4*x^2*z^5+((-1)*y^2*x^5*z^4+((-1)*y^5*x^4*z^2+0)))))) := by kernel_rfl
theorem vi332 (x y z : Int) : (1*y^4*x^5*z^2+(1*y^2*x^4*z^5+(1*y^5*x^2*z^4+((-1)*y^4*x^2*z^5+((-1)*y^2*x^5*z^4+((-1)*y^5*x^4*z^2+0)))))) = (1*x^2*y^3*z^3+(1*x^3*y^2*z^3+(1*x^3*y^3*z^2+0)))*(x-y)*(x-z)*(y-z) := by grind
theorem wv333 (x y z : Int) : worthOf [x, y, z] (fillings 3 3 3) = (1*x^3*y^3*z^3+0) := by kernel_rfl
theorem hv333 (x y z : Int) : sumv (detTab (row (hs x y z) 3 0) (row (hs x y z) 3 1) (row (hs x y z) 3 2)) = (1*(((0+x*(0+x*(0+x*1)))+y*((0+x*(0+x*1))+y*((0+x*1)+y*1)))+z*(((0+x*(0+x*1))+y*((0+x*1)+y*1))+z*(((0+x*1)+y*1)+z*1)))*(((0+x*(0+x*(0+x*1)))+y*((0+x*(0+x*1))+y*((0+x*1)+y*1)))+z*(((0+x*(0+x*1))+y*((0+x*1)+y*1))+z*(((0+x*1)+y*1)+z*1)))*(((0+x*(0+x*(0+x*1)))+y*((0+x*(0+x*1))+y*((0+x*1)+y*1)))+z*(((0+x*(0+x*1))+y*((0+x*1)+y*1))+z*(((0+x*1)+y*1)+z*1)))+(1*(((0+x*(0+x*(0+x*(0+x*1))))+y*((0+x*(0+x*(0+x*1)))+y*((0+x*(0+x*1))+y*((0+x*1)+y*1))))+z*(((0+x*(0+x*(0+x*1)))+y*((0+x*(0+x*1))+y*((0+x*1)+y*1)))+z*(((0+x*(0+x*1))+y*((0+x*1)+y*1))+z*(((0+x*1)+y*1)+z*1))))*(((0+x*(0+x*(0+x*(0+x*1))))+y*((0+x*(0+x*(0+x*1)))+y*((0+x*(0+x*1))+y*((0+x*1)+y*1))))+z*(((0+x*(0+x*(0+x*1)))+y*((0+x*(0+x*1))+y*((0+x*1)+y*1)))+z*(((0+x*(0+x*1))+y*((0+x*1)+y*1))+z*(((0+x*1)+y*1)+z*1))))*(((0+x*1)+y*1)+z*1)+(1*(((0+x*(0+x*1))+y*((0+x*1)+y*1))+z*(((0+x*1)+y*1)+z*1))*(((0+x*(0+x*(0+x*(0+x*(0+x*1)))))+y*((0+x*(0+x*(0+x*(0+x*1))))+y*((0+x*(0+x*(0+x*1)))+y*((0+x*(0+x*1))+y*((0+x*1)+y*1)))))+z*(((0+x*(0+x*(0+x*(0+x*1))))+y*((0+x*(0+x*(0+x*1)))+y*((0+x*(0+x*1))+y*((0+x*1)+y*1))))+z*(((0+x*(0+x*(0+x*1)))+y*((0+x*(0+x*1))+y*((0+x*1)+y*1)))+z*(((0+x*(0+x*1))+y*((0+x*1)+y*1))+z*(((0+x*1)+y*1)+z*1)))))*(((0+x*(0+x*1))+y*((0+x*1)+y*1))+z*(((0+x*1)+y*1)+z*1))+((-1)*(((0+x*(0+x*(0+x*1)))+y*((0+x*(0+x*1))+y*((0+x*1)+y*1)))+z*(((0+x*(0+x*1))+y*((0+x*1)+y*1))+z*(((0+x*1)+y*1)+z*1)))*(((0+x*(0+x*(0+x*(0+x*(0+x*1)))))+y*((0+x*(0+x*(0+x*(0+x*1))))+y*((0+x*(0+x*(0+x*1)))+y*((0+x*(0+x*1))+y*((0+x*1)+y*1)))))+z*(((0+x*(0+x*(0+x*(0+x*1))))+y*((0+x*(0+x*(0+x*1)))+y*((0+x*(0+x*1))+y*((0+x*1)+y*1))))+z*(((0+x*(0+x*(0+x*1)))+y*((0+x*(0+x*1))+y*((0+x*1)+y*1)))+z*(((0+x*(0+x*1))+y*((0+x*1)+y*1))+z*(((0+x*1)+y*1)+z*1)))))*(((0+x*1)+y*1)+z*1)+((-1)*(((0+x*(0+x*(0+x*(0+x*1))))+y*((0+x*(0+x*(0+x*1)))+y*((0+x*(0+x*1))+y*((0+x*1)+y*1))))+z*(((0+x*(0+x*(0+x*1)))+y*((0+x*(0+x*1))+y*((0+x*1)+y*1)))+z*(((0+x*(0+x*1))+y*((0+x*1)+y*1))+z*(((0+x*1)+y*1)+z*1))))*(((0+x*(0+x*(0+x*1)))+y*((0+x*(0+x*1))+y*((0+x*1)+y*1)))+z*(((0+x*(0+x*1))+y*((0+x*1)+y*1))+z*(((0+x*1)+y*1)+z*1)))*(((0+x*(0+x*1))+y*((0+x*1)+y*1))+z*(((0+x*1)+y*1)+z*1))+((-1)*(((0+x*(0+x*1))+y*((0+x*1)+y*1))+z*(((0+x*1)+y*1)+z*1))*(((0+x*(0+x*(0+x*(0+x*1))))+y*((0+x*(0+x*(0+x*1)))+y*((0+x*(0+x*1))+y*((0+x*1)+y*1))))+z*(((0+x*(0+x*(0+x*1)))+y*((0+x*(0+x*1))+y*((0+x*1)+y*1)))+z*(((0+x*(0+x*1))+y*((0+x*1)+y*1))+z*(((0+x*1)+y*1)+z*1))))*(((0+x*(0+x*(0+x*1)))+y*((0+x*(0+x*1))+y*((0+x*1)+y*1)))+z*(((0+x*(0+x*1))+y*((0+x*1)+y*1))+z*(((0+x*1)+y*1)+z*1)))+0)))))) := by kernel_rfl
theorem hi333 (x y z : Int) : (1*(((0+x*(0+x*(0+x*1)))+y*((0+x*(0+x*1))+y*((0+x*1)+y*1)))+z*(((0+x*(0+x*1))+y*((0+x*1)+y*1))+z*(((0+x*1)+y*1)+z*1)))*(((0+x*(0+x*(0+x*1)))+y*((0+x*(0+x*1))+y*((0+x*1)+y*1)))+z*(((0+x*(0+x*1))+y*((0+x*1)+y*1))+z*(((0+x*1)+y*1)+z*1)))*(((0+x*(0+x*(0+x*1)))+y*((0+x*(0+x*1))+y*((0+x*1)+y*1)))+z*(((0+x*(0+x*1))+y*((0+x*1)+y*1))+z*(((0+x*1)+y*1)+z*1)))+(1*(((0+x*(0+x*(0+x*(0+x*1))))+y*((0+x*(0+x*(0+x*1)))+y*((0+x*(0+x*1))+y*((0+x*1)+y*1))))+z*(((0+x*(0+x*(0+x*1)))+y*((0+x*(0+x*1))+y*((0+x*1)+y*1)))+z*(((0+x*(0+x*1))+y*((0+x*1)+y*1))+z*(((0+x*1)+y*1)+z*1))))*(((0+x*(0+x*(0+x*(0+x*1))))+y*((0+x*(0+x*(0+x*1)))+y*((0+x*(0+x*1))+y*((0+x*1)+y*1))))+z*(((0+x*(0+x*(0+x*1)))+y*((0+x*(0+x*1))+y*((0+x*1)+y*1)))+z*(((0+x*(0+x*1))+y*((0+x*1)+y*1))+z*(((0+x*1)+y*1)+z*1))))*(((0+x*1)+y*1)+z*1)+(1*(((0+x*(0+x*1))+y*((0+x*1)+y*1))+z*(((0+x*1)+y*1)+z*1))*(((0+x*(0+x*(0+x*(0+x*(0+x*1)))))+y*((0+x*(0+x*(0+x*(0+x*1))))+y*((0+x*(0+x*(0+x*1)))+y*((0+x*(0+x*1))+y*((0+x*1)+y*1)))))+z*(((0+x*(0+x*(0+x*(0+x*1))))+y*((0+x*(0+x*(0+x*1)))+y*((0+x*(0+x*1))+y*((0+x*1)+y*1))))+z*(((0+x*(0+x*(0+x*1)))+y*((0+x*(0+x*1))+y*((0+x*1)+y*1)))+z*(((0+x*(0+x*1))+y*((0+x*1)+y*1))+z*(((0+x*1)+y*1)+z*1)))))*(((0+x*(0+x*1))+y*((0+x*1)+y*1))+z*(((0+x*1)+y*1)+z*1))+((-1)*(((0+x*(0+x*(0+x*1)))+y*((0+x*(0+x*1))+y*((0+x*1)+y*1)))+z*(((0+x*(0+x*1))+y*((0+x*1)+y*1))+z*(((0+x*1)+y*1)+z*1)))*(((0+x*(0+x*(0+x*(0+x*(0+x*1)))))+y*((0+x*(0+x*(0+x*(0+x*1))))+y*((0+x*(0+x*(0+x*1)))+y*((0+x*(0+x*1))+y*((0+x*1)+y*1)))))+z*(((0+x*(0+x*(0+x*(0+x*1))))+y*((0+x*(0+x*(0+x*1)))+y*((0+x*(0+x*1))+y*((0+x*1)+y*1))))+z*(((0+x*(0+x*(0+x*1)))+y*((0+x*(0+x*1))+y*((0+x*1)+y*1)))+z*(((0+x*(0+x*1))+y*((0+x*1)+y*1))+z*(((0+x*1)+y*1)+z*1)))))*(((0+x*1)+y*1)+z*1)+((-1)*(((0+x*(0+x*(0+x*(0+x*1))))+y*((0+x*(0+x*(0+x*1)))+y*((0+x*(0+x*1))+y*((0+x*1)+y*1))))+z*(((0+x*(0+x*(0+x*1)))+y*((0+x*(0+x*1))+y*((0+x*1)+y*1)))+z*(((0+x*(0+x*1))+y*((0+x*1)+y*1))+z*(((0+x*1)+y*1)+z*1))))*(((0+x*(0+x*(0+x*1)))+y*((0+x*(0+x*1))+y*((0+x*1)+y*1)))+z*(((0+x*(0+x*1))+y*((0+x*1)+y*1))+z*(((0+x*1)+y*1)+z*1)))*(((0+x*(0+x*1))+y*((0+x*1)+y*1))+z*(((0+x*1)+y*1)+z*1))+((-1)*(((0+x*(0+x*1))+y*((0+x*1)+y*1))+z*(((0+x*1)+y*1)+z*1))*(((0+x*(0+x*(0+x*(0+x*1))))+y*((0+x*(0+x*(0+x*1)))+y*((0+x*(0+x*1))+y*((0+x*1)+y*1))))+z*(((0+x*(0+x*(0+x*1)))+y*((0+x*(0+x*1))+y*((0+x*1)+y*1)))+z*(((0+x*(0+x*1))+y*((0+x*1)+y*1))+z*(((0+x*1)+y*1)+z*1))))*(((0+x*(0+x*(0+x*1)))+y*((0+x*(0+x*1))+y*((0+x*1)+y*1)))+z*(((0+x*(0+x*1))+y*((0+x*1)+y*1))+z*(((0+x*1)+y*1)+z*1)))+0)))))) = (1*x^3*y^3*z^3+0) := by grind
theorem ev333 (x y z : Int) : sumv (detTab (row (es x y z) 3 0) (row (es x y z) 3 1) (row (es x y z) 3 2)) = (1*(((0+x*0)+y*(0+x*0))+z*((0+x*0)+y*(0+x*1)))*(((0+x*0)+y*(0+x*0))+z*((0+x*0)+y*(0+x*1)))*(((0+x*0)+y*(0+x*0))+z*((0+x*0)+y*(0+x*1)))+(1*0*0*(((0+x*1)+y*1)+z*1)+(1*(((0+x*0)+y*(0+x*1))+z*((0+x*1)+y*1))*0*(((0+x*0)+y*(0+x*1))+z*((0+x*1)+y*1))+((-1)*(((0+x*0)+y*(0+x*0))+z*((0+x*0)+y*(0+x*1)))*0*(((0+x*1)+y*1)+z*1)+((-1)*0*(((0+x*0)+y*(0+x*0))+z*((0+x*0)+y*(0+x*1)))*(((0+x*0)+y*(0+x*1))+z*((0+x*1)+y*1))+((-1)*(((0+x*0)+y*(0+x*1))+z*((0+x*1)+y*1))*0*(((0+x*0)+y*(0+x*0))+z*((0+x*0)+y*(0+x*1)))+0)))))) := by kernel_rfl
theorem ei333 (x y z : Int) : (1*(((0+x*0)+y*(0+x*0))+z*((0+x*0)+y*(0+x*1)))*(((0+x*0)+y*(0+x*0))+z*((0+x*0)+y*(0+x*1)))*(((0+x*0)+y*(0+x*0))+z*((0+x*0)+y*(0+x*1)))+(1*0*0*(((0+x*1)+y*1)+z*1)+(1*(((0+x*0)+y*(0+x*1))+z*((0+x*1)+y*1))*0*(((0+x*0)+y*(0+x*1))+z*((0+x*1)+y*1))+((-1)*(((0+x*0)+y*(0+x*0))+z*((0+x*0)+y*(0+x*1)))*0*(((0+x*1)+y*1)+z*1)+((-1)*0*(((0+x*0)+y*(0+x*0))+z*((0+x*0)+y*(0+x*1)))*(((0+x*0)+y*(0+x*1))+z*((0+x*1)+y*1))+((-1)*(((0+x*0)+y*(0+x*1))+z*((0+x*1)+y*1))*0*(((0+x*0)+y*(0+x*0))+z*((0+x*0)+y*(0+x*1)))+0)))))) = (1*x^3*y^3*z^3+0) := by grind
theorem vv333 (x y z : Int) : sumv (detTab (pwRow x 3 3 3) (pwRow y 3 3 3) (pwRow z 3 3 3)) = (1*y^4*x^5*z^3+(1*y^3*x^4*z^5+(1*y^5*x^3*z^4+((-1)*y^4*x^3*z^5+((-1)*y^3*x^5*z^4+((-1)*y^5*x^4*z^3+0)))))) := by kernel_rfl
theorem vi333 (x y z : Int) : (1*y^4*x^5*z^3+(1*y^3*x^4*z^5+(1*y^5*x^3*z^4+((-1)*y^4*x^3*z^5+((-1)*y^3*x^5*z^4+((-1)*y^5*x^4*z^3+0)))))) = (1*x^3*y^3*z^3+0)*(x-y)*(x-z)*(y-z) := by grind
theorem pol_h {a b c : Int} (x y z : Int) (h0 : 0 ≤ c) (h1 : c ≤ b) (h2 : b ≤ a) (h3 : a ≤ 3) : sumv (detTab (row (hs x y z) a 0) (row (hs x y z) b 1) (row (hs x y z) c 2)) = worthOf [x, y, z] (fillings a b c) := by
  rcases q4 (Int.le_trans h0 (Int.le_trans h1 h2)) h3 with rfl | rfl | rfl | rfl <;> rcases q4 (Int.le_trans h0 h1) (Int.le_trans h2 h3) with rfl | rfl | rfl | rfl <;> rcases q4 h0 (Int.le_trans h1 (Int.le_trans h2 h3)) with rfl | rfl | rfl | rfl
  · exact (hv000 x y z).trans ((hi000 x y z).trans (wv000 x y z).symm)
  · exact absurd h1 (by decide)
  · exact absurd h1 (by decide)
  · exact absurd h1 (by decide)
  · exact absurd h2 (by decide)
  · exact absurd h2 (by decide)
  · exact absurd h2 (by decide)
  · exact absurd h2 (by decide)
  · exact absurd h2 (by decide)
  · exact absurd h2 (by decide)
  · exact absurd h2 (by decide)
  · exact absurd h2 (by decide)
  · exact absurd h2 (by decide)
  · exact absurd h2 (by decide)
  · exact absurd h2 (by decide)
  · exact absurd h2 (by decide)
  · exact (hv100 x y z).trans ((hi100 x y z).trans (wv100 x y z).symm)
  · exact absurd h1 (by decide)
  · exact absurd h1 (by decide)
  · exact absurd h1 (by decide)
  · exact (hv110 x y z).trans ((hi110 x y z).trans (wv110 x y z).symm)
  · exact (hv111 x y z).trans ((hi111 x y z).trans (wv111 x y z).symm)
  · exact absurd h1 (by decide)
  · exact absurd h1 (by decide)
  · exact absurd h2 (by decide)
  · exact absurd h2 (by decide)
  · exact absurd h2 (by decide)
  · exact absurd h2 (by decide)
  · exact absurd h2 (by decide)
  · exact absurd h2 (by decide)
  · exact absurd h2 (by decide)
  · exact absurd h2 (by decide)
  · exact (hv200 x y z).trans ((hi200 x y z).trans (wv200 x y z).symm)
  · exact absurd h1 (by decide)
  · exact absurd h1 (by decide)
  · exact absurd h1 (by decide)
  · exact (hv210 x y z).trans ((hi210 x y z).trans (wv210 x y z).symm)
  · exact (hv211 x y z).trans ((hi211 x y z).trans (wv211 x y z).symm)
  · exact absurd h1 (by decide)
  · exact absurd h1 (by decide)
  · exact (hv220 x y z).trans ((hi220 x y z).trans (wv220 x y z).symm)
  · exact (hv221 x y z).trans ((hi221 x y z).trans (wv221 x y z).symm)
  · exact (hv222 x y z).trans ((hi222 x y z).trans (wv222 x y z).symm)
  · exact absurd h1 (by decide)
  · exact absurd h2 (by decide)
  · exact absurd h2 (by decide)
  · exact absurd h2 (by decide)
  · exact absurd h2 (by decide)
  · exact (hv300 x y z).trans ((hi300 x y z).trans (wv300 x y z).symm)
  · exact absurd h1 (by decide)
  · exact absurd h1 (by decide)
  · exact absurd h1 (by decide)
  · exact (hv310 x y z).trans ((hi310 x y z).trans (wv310 x y z).symm)
  · exact (hv311 x y z).trans ((hi311 x y z).trans (wv311 x y z).symm)
  · exact absurd h1 (by decide)
  · exact absurd h1 (by decide)
  · exact (hv320 x y z).trans ((hi320 x y z).trans (wv320 x y z).symm)
  · exact (hv321 x y z).trans ((hi321 x y z).trans (wv321 x y z).symm)
  · exact (hv322 x y z).trans ((hi322 x y z).trans (wv322 x y z).symm)
  · exact absurd h1 (by decide)
  · exact (hv330 x y z).trans ((hi330 x y z).trans (wv330 x y z).symm)
  · exact (hv331 x y z).trans ((hi331 x y z).trans (wv331 x y z).symm)
  · exact (hv332 x y z).trans ((hi332 x y z).trans (wv332 x y z).symm)
  · exact (hv333 x y z).trans ((hi333 x y z).trans (wv333 x y z).symm)
theorem pol_e {a b c : Int} (x y z : Int) (h0 : 0 ≤ c) (h1 : c ≤ b) (h2 : b ≤ a) (h3 : a ≤ 3) : sumv (detTab (row (es x y z) (cI 1 a b c) 0) (row (es x y z) (cI 2 a b c) 1) (row (es x y z) (cI 3 a b c) 2)) = worthOf [x, y, z] (fillings a b c) := by
  rcases q4 (Int.le_trans h0 (Int.le_trans h1 h2)) h3 with rfl | rfl | rfl | rfl <;> rcases q4 (Int.le_trans h0 h1) (Int.le_trans h2 h3) with rfl | rfl | rfl | rfl <;> rcases q4 h0 (Int.le_trans h1 (Int.le_trans h2 h3)) with rfl | rfl | rfl | rfl
  · rw [show cI 1 0 0 0 = 0 from by decide, show cI 2 0 0 0 = 0 from by decide, show cI 3 0 0 0 = 0 from by decide]; exact (ev000 x y z).trans ((ei000 x y z).trans (wv000 x y z).symm)
  · exact absurd h1 (by decide)
  · exact absurd h1 (by decide)
  · exact absurd h1 (by decide)
  · exact absurd h2 (by decide)
  · exact absurd h2 (by decide)
  · exact absurd h2 (by decide)
  · exact absurd h2 (by decide)
  · exact absurd h2 (by decide)
  · exact absurd h2 (by decide)
  · exact absurd h2 (by decide)
  · exact absurd h2 (by decide)
  · exact absurd h2 (by decide)
  · exact absurd h2 (by decide)
  · exact absurd h2 (by decide)
  · exact absurd h2 (by decide)
  · rw [show cI 1 1 0 0 = 1 from by decide, show cI 2 1 0 0 = 0 from by decide, show cI 3 1 0 0 = 0 from by decide]; exact (ev100 x y z).trans ((ei100 x y z).trans (wv100 x y z).symm)
  · exact absurd h1 (by decide)
  · exact absurd h1 (by decide)
  · exact absurd h1 (by decide)
  · rw [show cI 1 1 1 0 = 2 from by decide, show cI 2 1 1 0 = 0 from by decide, show cI 3 1 1 0 = 0 from by decide]; exact (ev110 x y z).trans ((ei110 x y z).trans (wv110 x y z).symm)
  · rw [show cI 1 1 1 1 = 3 from by decide, show cI 2 1 1 1 = 0 from by decide, show cI 3 1 1 1 = 0 from by decide]; exact (ev111 x y z).trans ((ei111 x y z).trans (wv111 x y z).symm)
  · exact absurd h1 (by decide)
  · exact absurd h1 (by decide)
  · exact absurd h2 (by decide)
  · exact absurd h2 (by decide)
  · exact absurd h2 (by decide)
  · exact absurd h2 (by decide)
  · exact absurd h2 (by decide)
  · exact absurd h2 (by decide)
  · exact absurd h2 (by decide)
  · exact absurd h2 (by decide)
  · rw [show cI 1 2 0 0 = 1 from by decide, show cI 2 2 0 0 = 1 from by decide, show cI 3 2 0 0 = 0 from by decide]; exact (ev200 x y z).trans ((ei200 x y z).trans (wv200 x y z).symm)
  · exact absurd h1 (by decide)
  · exact absurd h1 (by decide)
  · exact absurd h1 (by decide)
  · rw [show cI 1 2 1 0 = 2 from by decide, show cI 2 2 1 0 = 1 from by decide, show cI 3 2 1 0 = 0 from by decide]; exact (ev210 x y z).trans ((ei210 x y z).trans (wv210 x y z).symm)
  · rw [show cI 1 2 1 1 = 3 from by decide, show cI 2 2 1 1 = 1 from by decide, show cI 3 2 1 1 = 0 from by decide]; exact (ev211 x y z).trans ((ei211 x y z).trans (wv211 x y z).symm)
  · exact absurd h1 (by decide)
  · exact absurd h1 (by decide)
  · rw [show cI 1 2 2 0 = 2 from by decide, show cI 2 2 2 0 = 2 from by decide, show cI 3 2 2 0 = 0 from by decide]; exact (ev220 x y z).trans ((ei220 x y z).trans (wv220 x y z).symm)
  · rw [show cI 1 2 2 1 = 3 from by decide, show cI 2 2 2 1 = 2 from by decide, show cI 3 2 2 1 = 0 from by decide]; exact (ev221 x y z).trans ((ei221 x y z).trans (wv221 x y z).symm)
  · rw [show cI 1 2 2 2 = 3 from by decide, show cI 2 2 2 2 = 3 from by decide, show cI 3 2 2 2 = 0 from by decide]; exact (ev222 x y z).trans ((ei222 x y z).trans (wv222 x y z).symm)
  · exact absurd h1 (by decide)
  · exact absurd h2 (by decide)
  · exact absurd h2 (by decide)
  · exact absurd h2 (by decide)
  · exact absurd h2 (by decide)
  · rw [show cI 1 3 0 0 = 1 from by decide, show cI 2 3 0 0 = 1 from by decide, show cI 3 3 0 0 = 1 from by decide]; exact (ev300 x y z).trans ((ei300 x y z).trans (wv300 x y z).symm)
  · exact absurd h1 (by decide)
  · exact absurd h1 (by decide)
  · exact absurd h1 (by decide)
  · rw [show cI 1 3 1 0 = 2 from by decide, show cI 2 3 1 0 = 1 from by decide, show cI 3 3 1 0 = 1 from by decide]; exact (ev310 x y z).trans ((ei310 x y z).trans (wv310 x y z).symm)
  · rw [show cI 1 3 1 1 = 3 from by decide, show cI 2 3 1 1 = 1 from by decide, show cI 3 3 1 1 = 1 from by decide]; exact (ev311 x y z).trans ((ei311 x y z).trans (wv311 x y z).symm)
  · exact absurd h1 (by decide)
  · exact absurd h1 (by decide)
  · rw [show cI 1 3 2 0 = 2 from by decide, show cI 2 3 2 0 = 2 from by decide, show cI 3 3 2 0 = 1 from by decide]; exact (ev320 x y z).trans ((ei320 x y z).trans (wv320 x y z).symm)
  · rw [show cI 1 3 2 1 = 3 from by decide, show cI 2 3 2 1 = 2 from by decide, show cI 3 3 2 1 = 1 from by decide]; exact (ev321 x y z).trans ((ei321 x y z).trans (wv321 x y z).symm)
  · rw [show cI 1 3 2 2 = 3 from by decide, show cI 2 3 2 2 = 3 from by decide, show cI 3 3 2 2 = 1 from by decide]; exact (ev322 x y z).trans ((ei322 x y z).trans (wv322 x y z).symm)
  · exact absurd h1 (by decide)
  · rw [show cI 1 3 3 0 = 2 from by decide, show cI 2 3 3 0 = 2 from by decide, show cI 3 3 3 0 = 2 from by decide]; exact (ev330 x y z).trans ((ei330 x y z).trans (wv330 x y z).symm)
  · rw [show cI 1 3 3 1 = 3 from by decide, show cI 2 3 3 1 = 2 from by decide, show cI 3 3 3 1 = 2 from by decide]; exact (ev331 x y z).trans ((ei331 x y z).trans (wv331 x y z).symm)
  · rw [show cI 1 3 3 2 = 3 from by decide, show cI 2 3 3 2 = 3 from by decide, show cI 3 3 3 2 = 2 from by decide]; exact (ev332 x y z).trans ((ei332 x y z).trans (wv332 x y z).symm)
  · rw [show cI 1 3 3 3 = 3 from by decide, show cI 2 3 3 3 = 3 from by decide, show cI 3 3 3 3 = 3 from by decide]; exact (ev333 x y z).trans ((ei333 x y z).trans (wv333 x y z).symm)
theorem pol_v {a b c : Int} (x y z : Int) (h0 : 0 ≤ c) (h1 : c ≤ b) (h2 : b ≤ a) (h3 : a ≤ 3) : sumv (detTab (pwRow x a b c) (pwRow y a b c) (pwRow z a b c)) = worthOf [x, y, z] (fillings a b c) * (x - y) * (x - z) * (y - z) := by
  rcases q4 (Int.le_trans h0 (Int.le_trans h1 h2)) h3 with rfl | rfl | rfl | rfl <;> rcases q4 (Int.le_trans h0 h1) (Int.le_trans h2 h3) with rfl | rfl | rfl | rfl <;> rcases q4 h0 (Int.le_trans h1 (Int.le_trans h2 h3)) with rfl | rfl | rfl | rfl
  · rw [wv000]; exact (vv000 x y z).trans (vi000 x y z)
  · exact absurd h1 (by decide)
  · exact absurd h1 (by decide)
  · exact absurd h1 (by decide)
  · exact absurd h2 (by decide)
  · exact absurd h2 (by decide)
  · exact absurd h2 (by decide)
  · exact absurd h2 (by decide)
  · exact absurd h2 (by decide)
  · exact absurd h2 (by decide)
  · exact absurd h2 (by decide)
  · exact absurd h2 (by decide)
  · exact absurd h2 (by decide)
  · exact absurd h2 (by decide)
  · exact absurd h2 (by decide)
  · exact absurd h2 (by decide)
  · rw [wv100]; exact (vv100 x y z).trans (vi100 x y z)
  · exact absurd h1 (by decide)
  · exact absurd h1 (by decide)
  · exact absurd h1 (by decide)
  · rw [wv110]; exact (vv110 x y z).trans (vi110 x y z)
  · rw [wv111]; exact (vv111 x y z).trans (vi111 x y z)
  · exact absurd h1 (by decide)
  · exact absurd h1 (by decide)
  · exact absurd h2 (by decide)
  · exact absurd h2 (by decide)
  · exact absurd h2 (by decide)
  · exact absurd h2 (by decide)
  · exact absurd h2 (by decide)
  · exact absurd h2 (by decide)
  · exact absurd h2 (by decide)
  · exact absurd h2 (by decide)
  · rw [wv200]; exact (vv200 x y z).trans (vi200 x y z)
  · exact absurd h1 (by decide)
  · exact absurd h1 (by decide)
  · exact absurd h1 (by decide)
  · rw [wv210]; exact (vv210 x y z).trans (vi210 x y z)
  · rw [wv211]; exact (vv211 x y z).trans (vi211 x y z)
  · exact absurd h1 (by decide)
  · exact absurd h1 (by decide)
  · rw [wv220]; exact (vv220 x y z).trans (vi220 x y z)
  · rw [wv221]; exact (vv221 x y z).trans (vi221 x y z)
  · rw [wv222]; exact (vv222 x y z).trans (vi222 x y z)
  · exact absurd h1 (by decide)
  · exact absurd h2 (by decide)
  · exact absurd h2 (by decide)
  · exact absurd h2 (by decide)
  · exact absurd h2 (by decide)
  · rw [wv300]; exact (vv300 x y z).trans (vi300 x y z)
  · exact absurd h1 (by decide)
  · exact absurd h1 (by decide)
  · exact absurd h1 (by decide)
  · rw [wv310]; exact (vv310 x y z).trans (vi310 x y z)
  · rw [wv311]; exact (vv311 x y z).trans (vi311 x y z)
  · exact absurd h1 (by decide)
  · exact absurd h1 (by decide)
  · rw [wv320]; exact (vv320 x y z).trans (vi320 x y z)
  · rw [wv321]; exact (vv321 x y z).trans (vi321 x y z)
  · rw [wv322]; exact (vv322 x y z).trans (vi322 x y z)
  · exact absurd h1 (by decide)
  · rw [wv330]; exact (vv330 x y z).trans (vi330 x y z)
  · rw [wv331]; exact (vv331 x y z).trans (vi331 x y z)
  · rw [wv332]; exact (vv332 x y z).trans (vi332 x y z)
  · rw [wv333]; exact (vv333 x y z).trans (vi333 x y z)
end Mine
end
section
open PySem PySem.W PyProof.Rows PySem.Calls PySem.Spec PyProof.V PySem.SeqAt
set_option maxRecDepth 100000
set_option maxHeartbeats 8000000
namespace Mine
def srt (r0 r1 r2 : Int) : List Int :=
  if r1 ≤ r0 then (if r2 ≤ r1 then [r0, r1, r2] else if r2 ≤ r0 then [r0, r2, r1] else [r2, r0, r1])
  else (if r2 ≤ r0 then [r1, r0, r2] else if r2 ≤ r1 then [r1, r2, r0] else [r2, r1, r0])
theorem srt_perm (r0 r1 r2 : Int) : (srt r0 r1 r2).Perm [r0, r1, r2] := by
  unfold srt
  split
  · split
    · exact .refl _
    · split
      · exact .cons _ (.swap _ _ _)
      · exact (List.Perm.swap r0 r2 [r1]).trans (.cons _ (.swap _ _ _))
  · split
    · exact .swap _ _ _
    · split
      · exact (List.Perm.cons r1 (.swap r0 r2 [])).trans (.swap _ _ _)
      · exact (List.Perm.swap r1 r2 [r0]).trans ((List.Perm.cons r1 (.swap r0 r2 [])).trans (.swap _ _ _))
theorem srt_pw (r0 r1 r2 : Int) : (srt r0 r1 r2).Pairwise fun x y => y ≤ x := by
  unfold srt
  split <;> split <;> (try split) <;> simp <;> omega
theorem srt_eq {a b c r0 r1 r2 : Int} (h : [a, b, c].Perm [r0, r1, r2]) (hp : [a, b, c].Pairwise fun x y => y ≤ x) : [a, b, c] = srt r0 r1 r2 :=
  List.Perm.eq_of_pairwise (fun _ _ _ _ h1 h2 => Int.le_antisymm h2 h1) hp (srt_pw _ _ _) (h.trans (srt_perm _ _ _).symm)
def okTab (T : List (Int × Int)) : Bool := T.all (fun p => decide (0 ≤ p.1) && decide (p.1 ≤ 999) && decide (p.2.natAbs < 1000)) && decide (T.length ≤ 60) && decide (0 < T.length)
def sameTab (D T : List (Int × Int)) : Bool := decide (D.length = T.length) && D.all fun p => decide (gt T p.1 = some p.2)
def okQ (q : Wst) : Bool := decide (q.cs.length ≤ 20) && q.cs.all (fun c => decide (0 ≤ c) && decide (c ≤ 100)) && decide (0 ≤ q.nt) && decide (q.nt ≤ 100) && decide (0 ≤ longest q) && decide (longest q ≤ 3) && shaped (wd q)
def okMax (q : Wst) (T : List (Int × Int)) : Bool := (T.map fun p => p.1 / 100).contains (longest q) && T.all fun p => decide (p.1 / 100 ≤ longest q)
def chk (r0 r1 r2 : Int) : Bool := match srt r0 r1 r2 with
  | [a, b, c] => decide (0 ≤ c) && decide (c ≤ b) && decide (b ≤ a) && decide (a ≤ 3) && okTab (fillings a b c) && okQ (wrun (leadBody r0 r1 r2)) && okQ (wrun (leadBody a b r2)) && okQ (wrun (leadBody r1 r0 c)) &&
      decide (colsOf (wrun (leadBody r0 r1 r2)) = colsI a b c) && (colsI a b c).all (fun p => decide (0 ≤ p) && decide (p ≤ 3)) && sameTab (turnedOf (fillings a b c)) (fillings a b c) &&
      decide (sumv (fillings a b c) * 2 = (a - b + 1) * (a - c + 2) * (b - c + 1)) && okMax (wrun (leadBody r0 r1 r2)) (fillings a b c) &&
      (PyData.eqv (wd (wrun (leadBody r0 r1 r2))) (wd (wrun (leadBody a b r2))) == decide (r2 = c)) && (PyData.eqv (wd (wrun (leadBody r0 r1 r2))) (wd (wrun (leadBody r1 r0 c))) == decide (r2 = c))
  | _ => false
theorem chk_all : ([0, 1, 2, 3].all fun r0 => [0, 1, 2, 3].all fun r1 => [0, 1, 2, 3].all fun r2 => chk r0 r1 r2) = true := by decide +kernel
theorem chk_one {r0 r1 r2 : Int} (h0 : 0 ≤ r0) (h0' : r0 ≤ 3) (h1 : 0 ≤ r1) (h1' : r1 ≤ 3) (h2 : 0 ≤ r2) (h2' : r2 ≤ 3) : chk r0 r1 r2 = true := by
  have m : ∀ {r : Int}, 0 ≤ r → r ≤ 3 → r ∈ ([0, 1, 2, 3] : List Int) := by
    intro r h h'
    rcases q4 h h' with rfl | rfl | rfl | rfl <;> simp
  exact List.all_eq_true.mp (List.all_eq_true.mp (List.all_eq_true.mp chk_all _ (m h0 h0')) _ (m h1 h1')) _ (m h2 h2')
structure Facts (r0 r1 r2 a b c : Int) : Prop where
  c0 : 0 ≤ c
  cb : c ≤ b
  ba : b ≤ a
  a3 : a ≤ 3
  tab : okTab (fillings a b c) = true
  q1 : okQ (wrun (leadBody r0 r1 r2)) = true
  q2 : okQ (wrun (leadBody a b r2)) = true
  q3 : okQ (wrun (leadBody r1 r0 c)) = true
  cols : colsOf (wrun (leadBody r0 r1 r2)) = colsI a b c
  colsB : (colsI a b c).all (fun p => decide (0 ≤ p) && decide (p ≤ 3)) = true
  turn : sameTab (turnedOf (fillings a b c)) (fillings a b c) = true
  sum : sumv (fillings a b c) * 2 = (a - b + 1) * (a - c + 2) * (b - c + 1)
  mx : okMax (wrun (leadBody r0 r1 r2)) (fillings a b c) = true
  e1 : PyData.eqv (wd (wrun (leadBody r0 r1 r2))) (wd (wrun (leadBody a b r2))) = decide (r2 = c)
  e2 : PyData.eqv (wd (wrun (leadBody r0 r1 r2))) (wd (wrun (leadBody r1 r0 c))) = decide (r2 = c)
theorem facts {r0 r1 r2 a b c : Int} (h0 : 0 ≤ r0) (h0' : r0 ≤ 3) (h1 : 0 ≤ r1) (h1' : r1 ≤ 3) (h2 : 0 ≤ r2) (h2' : r2 ≤ 3) (h : [a, b, c].Perm [r0, r1, r2]) (hp : [a, b, c].Pairwise fun x y => y ≤ x) : Facts r0 r1 r2 a b c := by
  have e := srt_eq h hp
  have k := chk_one h0 h0' h1 h1' h2 h2'
  unfold chk at k
  rw [← e] at k
  simp only [Bool.and_eq_true, decide_eq_true_eq, beq_iff_eq] at k
  obtain ⟨⟨⟨⟨⟨⟨⟨⟨⟨⟨⟨⟨⟨⟨k1, k2⟩, k3⟩, k4⟩, k5⟩, k6⟩, k7⟩, k8⟩, k9⟩, k10⟩, k11⟩, k12⟩, k13⟩, k14⟩, k15⟩ := k
  exact ⟨k1, k2, k3, k4, k5, k6, k7, k8, k9, k10, k11, k12, k13, k14, k15⟩
theorem okTab_of {T : List (Int × Int)} (h : okTab T = true) : (∀ p ∈ T, 0 ≤ p.1 ∧ p.1 ≤ 999 ∧ Bd 20 p.2) ∧ T.length ≤ 60 ∧ 0 < T.length := by
  unfold okTab at h
  simp only [Bool.and_eq_true, decide_eq_true_eq, List.all_eq_true] at h
  refine ⟨fun p hp => ?_, h.1.2, h.2⟩
  have := h.1.1 p hp
  exact ⟨this.1.1, this.1.2, by unfold Bd; omega⟩
theorem okQ_of {q : Wst} (h : okQ q = true) : Small q ∧ shaped (wd q) = true := by
  unfold okQ at h
  simp only [Bool.and_eq_true, decide_eq_true_eq, List.all_eq_true] at h
  obtain ⟨⟨⟨⟨⟨⟨h1, h2⟩, h3⟩, h4⟩, h5⟩, h6⟩, h7⟩ := h
  exact ⟨⟨h1, h2, ⟨h3, h4⟩, ⟨h5, h6⟩⟩, h7⟩
theorem rows_of {T : List (Int × Int)} : ∀ {D : List (Int × Int)}, (∀ p ∈ D, gt T p.1 = some p.2) → KeqRows (enc T) (enc D) true := by
  intro D
  induction D with
  | nil => intro _; exact .nil
  | cons p r ih =>
    intro h
    have e : (PyData.eqv (.int p.2) (.int p.2) && true) = true := by rw [Bool.and_true]; show decide (p.2 = p.2) = true; simp
    have z : KeqRows (enc T) (enc (p :: r)) (PyData.eqv (.int p.2) (.int p.2) && true) := KeqRows.hit (by rw [lookup_enc, h p (.head _)]; rfl) (ih fun q hq => h q (.tail _ hq))
    rw [e] at z
    exact z
theorem sameTab_of {D T : List (Int × Int)} (h : sameTab D T = true) : (enc D).length = (enc T).length ∧ KeqRows (enc T) (enc D) true := by
  unfold sameTab at h
  simp only [Bool.and_eq_true, decide_eq_true_eq, List.all_eq_true] at h
  exact ⟨by unfold enc; rw [List.length_map, List.length_map, h.1], rows_of h.2⟩
theorem okMax_of {q : Wst} {T : List (Int × Int)} (h : okMax q T = true) : longest q ∈ T.map (fun p => p.1 / 100) ∧ ∀ x ∈ T.map (fun p => p.1 / 100), x ≤ longest q := by
  unfold okMax at h
  simp only [Bool.and_eq_true, decide_eq_true_eq, List.all_eq_true, List.contains_iff_mem] at h
  refine ⟨h.1, fun x hx => ?_⟩
  obtain ⟨p, hp, rfl⟩ := List.mem_map.mp hx
  exact h.2 p hp
theorem worth_bd {xs : List Int} {d : List (Int × Int)} (hx : xs.length = 3) (hd : ∀ p ∈ d, 0 ≤ p.1 ∧ p.1 ≤ 999 ∧ Bd 20 p.2) (hb : ∀ x ∈ xs, Bd 200 x) (hl : d.length ≤ 60) : Bd 6000 (worthOf xs d) := by
  have one : ∀ p ∈ d, Bd 5900 (prod p.2 (xs.zip (pws p.1))) := by
    intro p hp
    have h := prod_bd (l := xs.zip (pws p.1)) (fun q hq => by
      have hq' := List.of_mem_zip (show (q.1, q.2) ∈ xs.zip (pws p.1) from hq)
      exact ⟨hb _ hq'.1, pws_bd (hd p hp).1 (hd p hp).2.1 hq'.2⟩) (hd p hp).2.2
    have hlen : (xs.zip (pws p.1)).length ≤ 3 := by rw [List.length_zip, hx]; exact Nat.min_le_left _ _
    exact h.mono (by omega)
  have key : ∀ d : List (Int × Int), (∀ p ∈ d, Bd 5900 (prod p.2 (xs.zip (pws p.1)))) → Bd (5900 + d.length) (worthOf xs d) := by
    intro d
    induction d with
    | nil => intro _; exact Bd.zero
    | cons p r ih =>
      intro h
      have h1 : Bd (5900 + r.length) (worthOf xs r) := ih fun q hq => h q (.tail _ hq)
      have h2 : worthOf xs (p :: r) = prod p.2 (xs.zip (pws p.1)) + worthOf xs r := by unfold worthOf; simp
      rw [h2]
      exact (((h p (.head _)).mono (Nat.le_add_right 5900 r.length)).add h1).mono (by rw [List.length_cons]; omega)
  exact (key d one).mono (by omega)
end Mine
end
section
open PySem PySem.W PyProof.Rows PySem.Calls PySem.Spec PyProof.V PyProof.Rows.LCg
set_option maxRecDepth 100000
set_option maxHeartbeats 8000000
namespace Mine
local macro_rules | `(tactic| walk_at "call ref") => `(tactic| refine stop_here ?_)
local macro_rules | `(tactic| walk_at "eval ListComp") => `(tactic| refine stop_here ?_)
local macro_rules | `(tactic| walk_at "SrcDk") => `(tactic| refine stop_here ?_)
local macro_rules | `(tactic| walk_at "call builtin:max") => `(tactic| refine stop_here ?_)
theorem wsN {w : World} {h₀ h : Heap} {L a dx T C : Addr} {news : List (Addr × Obj)} {cv : List Value} {q : Wst} {x : Str} {t k1 k2 k3 k4 k5 un unt ub : Tok} {sm : Bool} (N : News h₀ L h news) (m1 : (a, instObj 83 dx) ∈ news)
    (m2 : (dx, dictOf [⟨PyData.keyHash w.params (Str.ofString "raw"), .str (Str.ofString "raw") k1, .str x t⟩, ⟨PyData.keyHash w.params (Str.ofString "n"), .str (Str.ofString "n") k2, .int q.n un⟩,
    ⟨PyData.keyHash w.params (Str.ofString "nt"), .str (Str.ofString "nt") k3, .int q.nt unt⟩, ⟨PyData.keyHash w.params (Str.ofString "norm"), .str (Str.ofString "norm") k4, .ref T⟩,
    ⟨PyData.keyHash w.params (Str.ofString "is_simple"), .str (Str.ofString "is_simple") k5, .bool sm⟩] 5) ∈ news) (m3 : (T, ({ cls := .type "tuple", data := .seq #[.ref C, .int q.b ub] } : Obj)) ∈ news) (m4 : (C, ({ cls := .type "tuple", data := .seq (List.toArray cv) } : Obj)) ∈ news) (h5 : IntsAre cv q.cs) : IsWs w h a q :=
  ⟨dx, T, C, cv, x, t, k1, k2, k3, k4, k5, un, unt, ub, sm, (N _ m1).1, (N _ m2).1, ⟨_, (N _ m3).1, rfl, _, rfl⟩, ⟨_, (N _ m4).1, rfl, _, rfl⟩, h5⟩
/-- law's statements and names, as the fragment holds them -/
noncomputable def lawB (w : World) : { b : List Stmt × Scope // ∃ c od name params dV kV doc pm an cdv ct osl, (hd.heap_1 w.params).lookup 205 = some ⟨c, od, .func (fnOf name (Str.ofString "law") params b.1 b.2 dV kV doc pm an cdv ct), osl⟩ } :=
  ⟨(_, _), _, _, _, _, _, _, _, _, _, _, _, _, by rfl⟩
theorem law_tail {w : World} {mg mb : Str → Option Value} {s : Shared} (O : Ok w mg mb s.heap) {dp un : Nat} {fr : Option (List Env)} {gs : Option (List Code)} (hRd : ∀ env, Room (Around.deeper ⟨none, dp, fr, gs, un⟩ env) 7 147)
    {h : Heap} {tk : Nat} {m : Str → Option Value} {rt as sdx sT sC lr : Addr} {ot occ ocb oca : Obj} {scv : List Value} {x : Str} {t k1 k2 k3 k4 k5 sun sunt sub : Tok} {sm : Bool} {r0 r1 r2 a b c : Int} {tr0 tr1 tr2 ua ub uc : Tok} {kvs : List (Int × Value)} {Q : Value → Shared → Prop}
    (F : Fr s.heap s.heap.objs.size h m) (N : News s.heap s.heap.objs.size h [(rt, ot), (as, instObj 83 sdx), (sdx, dictOf [⟨PyData.keyHash w.params (Str.ofString "raw"), .str (Str.ofString "raw") k1, .str x t⟩, ⟨PyData.keyHash w.params (Str.ofString "n"), .str (Str.ofString "n") k2, .int (wrun (leadBody r0 r1 r2)).n sun⟩,
    ⟨PyData.keyHash w.params (Str.ofString "nt"), .str (Str.ofString "nt") k3, .int (wrun (leadBody r0 r1 r2)).nt sunt⟩, ⟨PyData.keyHash w.params (Str.ofString "norm"), .str (Str.ofString "norm") k4, .ref sT⟩,
    ⟨PyData.keyHash w.params (Str.ofString "is_simple"), .str (Str.ofString "is_simple") k5, .bool sm⟩] 5), (sT, { cls := .type "tuple", data := .seq #[.ref sC, .int (wrun (leadBody r0 r1 r2)).b sub] }), (sC, { cls := .type "tuple", data := .seq (List.toArray scv) }),
      (lr, W.listOf #[Value.int r0 tr0, Value.int r1 tr1, Value.int r2 tr2] 0), (s.heap.objs.size + 1 + 1 + 1, occ), (s.heap.objs.size + 1 + 1, ocb), (s.heap.objs.size + 1, oca)])
    (hm1 : m (Str.ofString "table") = some (.ref rt)) (hm2 : m (Str.ofString "shape") = some (.ref as)) (hm3 : m (Str.ofString "runs") = some (.ref lr))
    (lo8 : (rt == sysModules) = false) (hio8 : ot.IsDictOf (IK w) kvs) (hf8 : FlatPairs PyData.int kvs (enc (fillings a b c))) (fc : Facts r0 r1 r2 a b c) (hr0 : 0 ≤ r0 ∧ r0 ≤ 3) (hr1 : 0 ≤ r1 ∧ r1 ≤ 3) (hr2 : 0 ≤ r2 ∧ r2 ≤ 3) (g5 : IntsAre scv (wrun (leadBody r0 r1 r2)).cs)
    (hca : oca.data = .cell (some (.int a ua))) (hcb : ocb.data = .cell (some (.int b ub))) (hcc : occ.data = .cell (some (.int c uc)))
    (hQ : ∀ h' tk, Keeps s.heap h' → Q (.bool true) { s with heap := h', toks := tk }) :
    wpAny (model PySem.Challenge.rw_xp0024_01.row.prog w) (Around.deeper ⟨none, dp, fr, gs, un⟩ (envOfC (Str.ofString "law") (lawB w).1.2 s.heap.objs.size 205 (.ref 204))) (execs ((lawB w).1.1.drop 13) (envOfC (Str.ofString "law") (lawB w).1.2 s.heap.objs.size 205 (.ref 204)))
      (fun fl s' => Q (match fl with | .ret v => v | _ => .none) s') (fun _ _ => False) { s with heap := h, toks := tk } := by
  have hO : ∀ {h : Heap}, Keeps s.heap h → Ok w mg mb h := fun k => O.keeps k
  have hT := okTab_of fc.tab
  obtain ⟨X, T⟩ := O
  revert X; k_fill; intro X
  unfold lawB
  dsimp only [List.drop]
  have F1 := F
  clear F
  have F4 := Fr.ov (l := [(Str.ofString "table", _), (Str.ofString "shape", _), (Str.ofString "runs", _)]) F1 (by intro p hp; simp only [List.mem_cons, List.not_mem_nil, or_false] at hp; rcases hp with rfl | rfl | rfl <;> assumption); clear F1
  (with_reducible show wpAny _ _ _ _ _ _)
  k_fold
  k_steps
  refine go_on ?_
  refine ListComp_D (m := ov [(Str.ofString "table", Value.ref rt), (Str.ofString "shape", Value.ref as), (Str.ofString "runs", Value.ref lr)] m) (L := s.heap.objs.size) (h₀ := s.heap) (by with_unfolding_all rfl) (by decide) (by rfl) (by decide) (by rfl) ?_
  k_steps
  rename Fr _ _ _ _ => F
  refine go_on ⟨rt, ot, kvs, fillings a b c, _, rfl, rfl, F, N, .head _, hio8, hf8, lo8, Nat.le_trans hT.2.1 (by show 60 ≤ sizeLine; decide), fun g => ?_⟩
  have hkey : ∀ (j : Nat) k u, (fillings a b c)[j]? = some (k, u) → ((fillings a b c).map fun p => p.1.fdiv 100).getD j 0 = k.fdiv 100 := by
    intro j k u hk
    rw [List.getD_eq_getElem?_getD, List.getElem?_map, hk]; rfl
  refine comp_pure (fun j y => ∃ t, y = .int (((fillings a b c).map fun p => p.1.fdiv 100).getD j 0) t) (.head _) ?_ ?_
  · rintro j v ys I oI C oC D m2 h8' tk8' E8 hj ⟨k, u, t8', hk, rfl⟩ hC hx8 F8' N8' off ne8
    clear F N
    k_steps
    rename Fr _ _ _ _ => F; rename News _ _ _ _ => N
    exact EltEnd.mk F N ⟨_, by rw [hkey j k u hk]⟩
  intro zs hz hzs D h50 tk50 F50 N50 off50
  have hzi : IntsAre zs ((fillings a b c).map fun p => p.1.fdiv 100) := ints_of (by rw [hz, List.length_map]) hzs
  have hzp : 0 < ((fillings a b c).map fun p => p.1.fdiv 100).length := by rw [List.length_map]; exact hT.2.2
  clear F N
  (try dsimp only)
  k_steps
  refine go_on (kso_max F50 N50 ⟨_, (N50 _ (.head _)).1, rfl, _, rfl⟩ hzi hzp (hRd _).h ?_)
  intro h51 M tM tk51 F51 N51 hM hMx
  have hmx := okMax_of fc.mx
  have hfd : ((fillings a b c).map fun p => p.1.fdiv 100) = (fillings a b c).map fun p => p.1 / 100 := List.map_congr_left fun p _ => Int.fdiv_eq_ediv_of_nonneg _ (by decide)
  rw [hfd] at hM hMx
  obtain rfl : M = longest (wrun (leadBody r0 r1 r2)) := Int.le_antisymm (hmx.2 M hM) (hMx _ hmx.1)
  have sq1 := okQ_of fc.q1
  clear F50 N50 hzi hzp hM hMx hz hzs off50
  (try dsimp only)
  k_steps
  (try dsimp only [List.cons_append, List.nil_append, List.append_nil])
  rename Fr _ _ _ _ => F; rename News _ _ _ _ => N
  refine go_on ?_
  refine use (longest_spec (hO (by exact F.keep)) (wsN N (by k_mem) (by k_mem) (by k_mem) (by k_mem) g5) sq1.1.l) F N ((hRd _).le (by decide) (by decide)) ?_
  rintro _ h52 tk52 k52 F52 N52 ⟨t52, rfl⟩
  clear F N
  (try dsimp only)
  k_steps
  · rename (_ ≠ _) => hne
    exact absurd rfl hne
  rename (longest _ = longest _) => hj; clear hj
  have f1 := fc.c0
  have f2 := fc.cb
  have f3 := fc.ba
  have f4 := fc.a3
  rename Fr _ _ _ _ => F; rename News _ _ _ _ => N
  have hb : ([r0, r1, r2].getD (Int.toNat 2) 0 == c) = decide (r2 = c) := rfl
  rw [hb] at F
  generalize hbb : decide (r2 = c) = bb at F
  refine go_on ?_
  refine use (lead_spec (r0 := a) (r1 := b) (r2 := r2) (hO (by exact F.keep)) ⟨_, ⟨_, (N _ (.head _)).1, rfl, _, rfl⟩, .cons _ _ (.cons _ _ (.cons _ _ .nil))⟩ (by omega) (by omega) (by omega) (by omega) hr2.1 hr2.2) F N ((hRd _).le (by decide) (by decide)) ?_
  rintro _ h53 tk53 k53 F53 N53 ⟨a2, rfl, hws2⟩
  clear F N
  (try dsimp only)
  k_steps
  (try dsimp only [List.cons_append, List.nil_append, List.append_nil])
  rename Fr _ _ _ _ => F; rename News _ _ _ _ => N
  refine go_on ?_
  refine use (equal_spec (hO (by exact F.keep)) (wsN N (by k_mem) (by k_mem) (by k_mem) (by k_mem) g5) hws2.ws sq1.2 (okQ_of fc.q2).2) F N ((hRd _).le (by decide) (by decide)) ?_
  rintro _ h54 tk54 k54 F54 N54 rfl
  rw [fc.e1, hbb]
  clear F N hws2
  (try dsimp only)
  k_steps
  · rename ((bb != bb) = true) => hne
    simp at hne
  rename Fr _ _ _ _ => F; rename News _ _ _ _ => N
  refine go_on ?_
  refine use (lead_spec (r0 := r1) (r1 := r0) (r2 := c) (hO (by exact F.keep)) ⟨_, ⟨_, (N _ (.head _)).1, rfl, _, rfl⟩, .cons _ _ (.cons _ _ (.cons _ _ .nil))⟩ hr1.1 hr1.2 hr0.1 hr0.2 (by omega) (by omega)) F N ((hRd _).le (by decide) (by decide)) ?_
  rintro _ h55 tk55 k55 F55 N55 ⟨a3, rfl, hws3⟩
  clear F N
  (try dsimp only)
  k_steps
  (try dsimp only [List.cons_append, List.nil_append, List.append_nil])
  rename Fr _ _ _ _ => F; rename News _ _ _ _ => N
  refine go_on ?_
  refine use (equal_spec (hO (by exact F.keep)) (wsN N (by k_mem) (by k_mem) (by k_mem) (by k_mem) g5) hws3.ws sq1.2 (okQ_of fc.q3).2) F N ((hRd _).le (by decide) (by decide)) ?_
  rintro _ h56 tk56 k56 F56 N56 rfl
  rw [fc.e2, hbb]
  clear F N hws3
  (try dsimp only)
  k_steps
  rename Fr _ _ _ _ => F; rename News _ _ _ _ => N
  rw [beq_self_eq_true]
  exact hQ _ _ F.keep
end Mine
end
section
open PySem PySem.W PyProof.Rows PySem.Calls PySem.Spec PyProof.V PyProof.Rows.LCg
set_option maxRecDepth 100000
set_option maxHeartbeats 8000000
namespace Mine
local macro_rules | `(tactic| walk_at "call ref") => `(tactic| refine stop_here ?_)
local macro_rules | `(tactic| walk_at "binaryOp Mult int int") => `(tactic| refine stop_here ?_)
local macro_rules | `(tactic| walk_at "eval ListComp") => `(tactic| refine stop_here ?_)
local macro_rules | `(tactic| walk_at "SrcTp") => `(tactic| refine stop_here ?_)
local macro_rules | `(tactic| walk_at "SrcDk") => `(tactic| refine stop_here ?_)
theorem six_of {α : Type} {l : List α} (h : l.length = 6) : ∃ a b c d e f, l = [a, b, c, d, e, f] := by
  match l, h with
  | [a, b, c, d, e, f], _ => exact ⟨a, b, c, d, e, f, rfl⟩
theorem News.pick4 {h₀ h : Heap} {L : Addr} {p0 p1 p2 p3 p4 p5 p6 : Addr × Obj} (N : News h₀ L h [p0, p1, p2, p3, p4, p5, p6]) : News h₀ L h [p1, p4, p5, p6] := by
  intro p hp
  refine N p ?_
  simp only [List.mem_cons, List.not_mem_nil, or_false] at hp ⊢
  rcases hp with rfl | rfl | rfl | rfl <;> simp
theorem newsAdds {h₀ h h' : Heap} {L : Addr} {m : Str → Option Value} {news l : List (Addr × Obj)} (F : Fr h₀ L h m) (N : News h₀ L h news) (k : Keeps h h') (hl : ∀ p ∈ l, h'.get? p.1 = some p.2 ∧ h.get? p.1 = none) : News h₀ L h' (l ++ news) := by
  intro p hp
  rcases List.mem_append.mp hp with hp | hp
  · exact newsAdd F N k (hl p hp).2 (hl p hp).1 (p.1, p.2) (.head _)
  · exact News.later N k p hp
theorem News.pick2 {h₀ h : Heap} {L : Addr} {p0 p1 a b : Addr × Obj} {l : List (Addr × Obj)} (N : News h₀ L h ([a, b] ++ (p0 :: p1 :: l))) : News h₀ L h ([a, b] ++ l) := by
  intro p hp
  refine N p ?_
  rcases List.mem_append.mp hp with hp | hp
  · exact List.mem_append_left _ hp
  · exact List.mem_append_right _ (.tail _ (.tail _ hp))
theorem hs_len (x y z : Int) : (hs x y z).length = 6 := rounds_length (fun xs n => addAts_length n _ xs) _ _
theorem es_len (x y z : Int) : (es x y z).length = 6 := rounds_length (fun xs n => addAts_length n _ xs) _ _
theorem row_bd {n : Nat} {xs : List Int} (h : ∀ j, Bd n (xs.getD j 0)) (p i : Int) : ∀ x ∈ row xs p i, Bd n x := by
  have c : ∀ j, Bd n (cell xs p i j) := by
    intro j
    unfold cell
    split
    · exact h _
    · exact Bd.zero
  intro x hx
  unfold row at hx
  simp only [List.mem_cons, List.not_mem_nil, or_false] at hx
  rcases hx with rfl | rfl | rfl <;> exact c _
theorem cPass {M : Model} {A : Around} {E : Value → Shared → Prop} {s : Shared} {env : Env} {body : List Stmt} {b : Bool} {Q : Flow → Shared → Prop} (hb : b = false) (h : Q .next s) :
    wpC M A (truthy (.bool b)) (fun c s₂ => if c = true then wpC M A (execs body env) Q E s₂ else wpC M A (execs [] env) Q E s₂) E s := by
  subst hb
  exact cPure (a := false) (cPure (a := Flow.next) h)
theorem News.pick3 {h₀ h : Heap} {L : Addr} {p0 a b c : Addr × Obj} {l : List (Addr × Obj)} (N : News h₀ L h (p0 :: ([a, b] ++ c :: l))) : News h₀ L h (c :: l) := by
  intro p hp
  exact N p (.tail _ (List.mem_append_right _ hp))
theorem News.pick5 {h₀ h : Heap} {L : Addr} {p0 p1 p2 p3 p4 : Addr × Obj} {l : List (Addr × Obj)} (N : News h₀ L h (p0 :: p1 :: p2 :: p3 :: p4 :: l)) : News h₀ L h l := fun p hp => N p (.tail _ (.tail _ (.tail _ (.tail _ (.tail _ hp)))))
theorem mulBd {prog : Program} {w : World} {A : Around} {E : Value → Shared → Prop} {s : Shared} {a b : Int} {t u : Tok} {n m : Nat} {Q : Value → Shared → Prop} (h0 : Bd n a) (h1 : Bd m b) (hs : n + m ≤ 2 ^ 27) (h : ∀ t', Q (.int (a * b) t') { s with toks := s.toks + 1 }) :
    wpAny (model prog w) A (binaryOp .Mult (.int a t) (.int b u)) Q E s := mul_int (h _) (h0.mulOk h1 hs)
theorem pwRow_bd {x a b c : Int} (hx : Bd 200 x) (ha : (a + 2).toNat ≤ 5) (hb : (b + 1).toNat ≤ 5) (hc : c.toNat ≤ 5) : ∀ y ∈ pwRow x a b c, Bd 100000 y := by
  intro y hy
  unfold pwRow at hy
  simp only [List.mem_cons, List.not_mem_nil, or_false] at hy
  rcases hy with rfl | rfl | rfl <;> exact (hx.pow _).mono (by omega)
theorem mulR {prog : Program} {w : World} {A : Around} {E : Value → Shared → Prop} {s : Shared} {a b : Int} {t u : Tok} {Q : Value → Shared → Prop} (h0 : -1000000 ≤ b) (h1 : b ≤ 1000000) (h : ∀ t', Q (.int (a * b) t') { s with toks := s.toks + 1 }) :
    wpAny (model prog w) A (binaryOp .Mult (.int a t) (.int b u)) Q E s := mul_int (h _) (IntMulOk.of_right (Nat.le_trans (Bd.bits (x := b) (n := 20) (small20 h0 h1)) (by decide)))
theorem cTruthF {M : Model} {A : Around} {E : Value → Shared → Prop} {s : Shared} {b : Bool} {Q : Bool → Shared → Prop} (hb : b = false) (h : Q false s) : wpC M A (truthy (.bool b)) Q E s := by
  subst hb
  exact cPure (a := false) h
theorem ini_bd : AllBd 1 [1, 0, 0, 0, 0, 0] := by
  intro a ha
  simp only [List.mem_cons, List.not_mem_nil, or_false] at ha
  rcases ha with rfl | rfl | rfl | rfl | rfl | rfl <;> (unfold Bd; decide)
theorem three_bd {x y z : Int} (bx : Bd 200 x) (by_ : Bd 200 y) (bz : Bd 200 z) : ∀ a ∈ [x, y, z], Bd 200 a := by
  intro a ha
  simp only [List.mem_cons, List.not_mem_nil, or_false] at ha
  rcases ha with rfl | rfl | rfl <;> assumption
theorem hs_bd {x y z : Int} (bx : Bd 200 x) (by_ : Bd 200 y) (bz : Bd 200 z) (j : Nat) : Bd 100000 ((hs x y z).getD j 0) :=
  AllBd.getD ((rounds_bd alikeOne_bd [x, y, z] (three_bd bx by_ bz) ini_bd).mono (by show 1 + 1005 * 3 ≤ 100000; decide)) j
theorem es_bd {x y z : Int} (bx : Bd 200 x) (by_ : Bd 200 y) (bz : Bd 200 z) (j : Nat) : Bd 100000 ((es x y z).getD j 0) :=
  AllBd.getD ((rounds_bd unlikeOne_bd [x, y, z] (three_bd bx by_ bz) ini_bd).mono (by show 1 + 1005 * 3 ≤ 100000; decide)) j
theorem law_spec {w : World} {mg mb : Str → Option Value} {s : Shared} (O : Ok w mg mb s.heap) {l : Addr} {xs : List Int} (h₂ : IL s.heap l xs) (hx : xs.length ≤ 63) :
    SpecC w 205 [.ref l] s 8 150 (fun v _ => v = .bool true) := by
  unfold SpecC
  intro dp un fr gs Q hR hQ
  have hO : ∀ {h : Heap}, Keeps s.heap h → Ok w mg mb h := fun k => O.keeps k
  have hl : Unit → IL s.heap l xs := fun _ => h₂
  clear h₂
  obtain ⟨X, T⟩ := O
  revert X; k_fill; intro X
  refine cCall ?_
  k_dflt (refine' cEnterXC X T [(Str.ofString "script", .ref l)] ?k6 ?k7 ?k8 ?k9 ?kB ?kN ?_ ?c2 ?c3 ?c4; (case k6 => k_is); (case k7 => k_is); (case k8 => (have := hR.d; dsimp only at this ⊢; omega)); (case k9 => exact rfl); (case kB => (intro n x hx; simp only [List.mem_cons, List.not_mem_nil, or_false] at hx; rcases hx with rfl <;> first | exact .inl rfl | exact .inr ⟨rfl, rfl⟩)); (case kN => decide); (case c2 => exact rfl); (case c3 => exact rfl); (case c4 => exact rfl); k_whole; intro h' tk' cells' F' N' Y'; k_cells Y'; (try dsimp only))
  have hRd := fun env => Room.deeper (env := env) hR
  rename_i o1 o2 o3 hc1 hc2 hc3
  replace hc1 : o1.data = .cell none := hc1
  replace hc2 : o2.data = .cell none := hc2
  replace hc3 : o3.data = .cell none := hc3
  refine cExecs (cOf ?_)
  k_steps
  rename Fr _ _ _ _ => F; rename News _ _ _ _ => N; refine go_on ?_; refine use (draws_spec (hO (by exact F.keep)) ((hl ()).keeps F.keep) hx) F N ((hRd _).le (by decide) (by decide)) ?_
  rintro _ h2 tk2 k2 F2 N2 ⟨rd, dv, ds, rfl, hd0, ⟨dn, hdo⟩, hdv, hdl, hdb⟩
  obtain ⟨d0, d1, d2, d3, d4, d5, rfl⟩ := six_of hdl
  obtain ⟨u0, dv0, rfl, hdv0⟩ := hdv.cons_inv
  obtain ⟨u1, dv1, rfl, hdv1⟩ := hdv0.cons_inv
  obtain ⟨u2, dv2, rfl, hdv2⟩ := hdv1.cons_inv
  obtain ⟨u3, dv3, rfl, hdv3⟩ := hdv2.cons_inv
  obtain ⟨u4, dv4, rfl, hdv4⟩ := hdv3.cons_inv
  obtain ⟨u5, dv5, rfl, hdv5⟩ := hdv4.cons_inv
  obtain rfl := hdv5.nil_inv
  clear hdv hdv0 hdv1 hdv2 hdv3 hdv4 hdv5 hdl
  have N3 := newsAdd F N k2 hd0 hdo
  clear F N N2 k2 hd0 hdo
  k_steps
  (try dsimp only)
  refine cExecs (cOf ?_)
  k_steps
  (try dsimp only)
  refine cExecs (cOf ?_)
  k_steps
  (try dsimp only)
  refine cExecs (cOf ?_)
  k_steps
  (try dsimp only)
  rename (IntsAre _ _) => hia
  rename (List.length _ = 0 + 1 + 1 + 1) => h3l
  rename (List.Perm _ _) => hpm
  rename (List.Pairwise _ _) => hpw
  obtain ⟨a, b, c, rfl⟩ := three_of (by exact h3l)
  obtain ⟨ua, va, rfl, hia1⟩ := hia.cons_inv
  obtain ⟨ub, vb, rfl, hia2⟩ := hia1.cons_inv
  obtain ⟨uc, vc, rfl, hia3⟩ := hia2.cons_inv
  obtain rfl := hia3.nil_inv
  clear hia hia1 hia2 hia3 h3l
  k_steps
  (try dsimp only)
  rename Fr _ _ _ _ => F; rename News _ _ _ _ => N
  rename_i tx ty tz _ _ _ _ _ _ _ _ _ _ lr _ hlr _ _ _ _ _ _ _ _ _
  obtain ⟨hlr1, hlr2, hlr3, hlr4, hlr5⟩ := hlr
  replace hlr3 := ltN hlr3
  replace hlr4 := ltN hlr4
  replace hlr5 := ltN hlr5
  have N4 : News _ _ _ [_, (s.heap.objs.size + 1 + 1 + 1, o1), (s.heap.objs.size + 1 + 1, o2), (s.heap.objs.size + 1, o3)] := News.pick4 N
  clear N
  refine stCell (c := s.heap.objs.size + 1) (o := o3) (pre := [(lr, _), (s.heap.objs.size + 1 + 1 + 1, o1), (s.heap.objs.size + 1 + 1, o2)]) (post := []) F N4 (by rfl) hc3 ?_ (fun _ hp => nomatch hp) ?_ rfl rfl
  · intro p hp
    simp only [List.mem_cons, List.not_mem_nil, or_false] at hp
    rcases hp with rfl | rfl | rfl
    · exact Nat.ne_of_gt hlr5
    · exact neN (by show _ ≠ _; omega)
    · exact neN (by show _ ≠ _; omega)
  intro h5 o6 F5 N5 ho6
  clear F N4
  k_steps
  -- a clean page
  rename Fr _ _ _ _ => F; rename News _ _ _ _ => N
  rename_i ocb hcb _ occ hcc
  have bx : Bd 200 d0 := hdb _ (.head _)
  have by_ : Bd 200 d1 := hdb _ (.tail _ (.head _))
  have bz : Bd 200 d2 := hdb _ (.tail _ (.tail _ (.head _)))
  have er : ∀ d : Int, 0 ≤ d.fmod 4 ∧ d.fmod 4 ≤ 3 := fun d => by rw [Int.fmod_eq_emod_of_nonneg _ (by decide)]; omega
  have hr0 := er d3
  have hr1 := er d4
  have hr2 := er d5
  have fc : Facts (d3.fmod 4) (d4.fmod 4) (d5.fmod 4) a b c := facts hr0.1 hr0.2 hr1.1 hr1.2 hr2.1 hr2.2 hpm hpw
  clear hpm hpw
  obtain ⟨tr0, tr1, tr2, N5⟩ : ∃ tr0 tr1 tr2, News s.heap s.heap.objs.size _ [(lr, W.listOf #[Value.int (d3.fmod 4) tr0, Value.int (d4.fmod 4) tr1, Value.int (d5.fmod 4) tr2] 0), (s.heap.objs.size + 1 + 1 + 1, occ), (s.heap.objs.size + 1 + 1, ocb), (s.heap.objs.size + 1, o6)] := ⟨_, _, _, N⟩
  obtain ⟨m, ⟨hm1, hm2, hm3, hm4⟩, F5⟩ : ∃ m, (m (Str.ofString "runs") = some (.ref lr) ∧ m (Str.ofString "x") = some (.int d0 tx) ∧ m (Str.ofString "y") = some (.int d1 ty) ∧ m (Str.ofString "z") = some (.int d2 tz)) ∧ Fr s.heap s.heap.objs.size _ m := ⟨_, ⟨rfl, rfl, rfl, rfl⟩, F⟩
  clear N F
  generalize d3.fmod 4 = r0 at hr0 fc N5
  generalize d4.fmod 4 = r1 at hr1 fc N5
  generalize d5.fmod 4 = r2 at hr2 fc N5
  clear er hdb
  rename ((_ ∨ _) ∧ _) => hj; clear hj
  rename (rd < _ ∧ _) => hj; clear hj
  rename (lr < _ ∧ _) => hj; clear hj
  clear hc1 hc2 hc3 hlr1 hlr2
  have F4 := Fr.ov (l := [(Str.ofString "runs", _), (Str.ofString "x", _), (Str.ofString "y", _), (Str.ofString "z", _)]) F5 (by intro p hp; simp only [List.mem_cons, List.not_mem_nil, or_false] at hp; rcases hp with rfl | rfl | rfl | rfl <;> assumption); clear F5
  dsimp only
  -- shape
  refine cExecs (cOf ?_)
  k_steps
  rename Fr _ _ _ _ => F; rename News _ _ _ _ => N; refine go_on ?_; refine use (lead_spec (hO (by exact F.keep)) ⟨_, ⟨_, (N _ (.head _)).1, rfl, _, rfl⟩, .cons _ _ (.cons _ _ (.cons _ _ .nil))⟩ hr0.1 hr0.2 hr1.1 hr1.2 hr2.1 hr2.2) F N ((hRd _).le (by decide) (by decide)) ?_
  rintro _ h6 tk6 k6 F6 N6 ⟨as, rfl, sdx, sT, sC, scv, sx, st, sk1, sk2, sk3, sk4, sk5, sun, sunt, sub, ssm, g1, g2, g3, g4, g5⟩
  have N7 := newsAdds (l := [(as, _), (sdx, _), (sT, _), (sC, _)]) F N k6 (by
    intro p hp
    simp only [List.mem_cons, List.not_mem_nil, or_false] at hp
    rcases hp with rfl | rfl | rfl | rfl
    · exact g1
    · exact g2
    · exact g3
    · exact g4)
  clear F N N6 k6 g1 g2 g3 g4
  k_steps
  dsimp only
  -- table
  refine cExecs (cOf ?_)
  k_steps
  rename Fr _ _ _ _ => F; rename News _ _ _ _ => N; refine go_on ?_; refine use (fillings_spec (hO (by exact F.keep)) fc.c0 fc.cb fc.ba fc.a3) F N ((hRd _).le (by decide) (by decide)) ?_
  rintro _ h8 tk8 k8 F8 N8 ⟨rt, rfl, htb, hrt⟩
  obtain ⟨lo8, kvs8, hdo8, hf8⟩ := htb
  obtain ⟨ot, hot, hio8⟩ := Heap.dictOf_iff.mp hdo8
  have N9 := newsAdd F N k8 hrt hot
  clear F N N8 k8 hdo8 hrt hot
  k_steps
  dsimp only
  have hT := okTab_of fc.tab
  have f1 := fc.c0
  have f2 := fc.cb
  have f3 := fc.ba
  have f4 := fc.a3
  have hx3 : ∀ x ∈ [d0, d1, d2], Bd 200 x := by
    intro x hx
    simp only [List.mem_cons, List.not_mem_nil, or_false] at hx
    rcases hx with rfl | rfl | rfl <;> assumption
  have bw := worth_bd (xs := [d0, d1, d2]) rfl hT.1 hx3 hT.2.1
  -- worth
  refine cExecs (cOf ?_)
  k_steps
  rename Fr _ _ _ _ => F; rename News _ _ _ _ => N
  refine go_on ?_
  refine use (worth_spec (hO (by exact F.keep)) (IsD.ofN N (by k_mem) lo8 hio8 hf8) ⟨_, ⟨_, (N _ (.head _)).1, rfl, _, rfl⟩, .cons _ _ (.cons _ _ (.cons _ _ .nil))⟩ rfl hT.1 hx3) F N ((hRd _).le (by decide) (by decide)) ?_
  rintro _ h10 tk10 k10 F10 N10 ⟨tw, rfl⟩
  clear F N
  k_steps
  dsimp only
  -- sums
  refine cExecs (cOf ?_)
  k_steps
  rename Fr _ _ _ _ => F; rename News _ _ _ _ => N
  refine go_on ?_
  refine use (sums_spec (hO (by exact F.keep)) ⟨_, ⟨_, (N _ (.head _)).1, rfl, _, rfl⟩, .cons _ _ (.cons _ _ (.cons _ _ .nil))⟩ rfl hx3) F N ((hRd _).le (by decide) (by decide)) ?_
  rintro _ h11 tk11 k11 F11 N11 ⟨TT, ra, ru, rfl, hTT, hT0, hra0, hru0, ⟨va, ⟨oa, hoa, hoac, na, hoad⟩, hva⟩, ⟨vu, ⟨ou, hou, houc, nu, houd⟩, hvu⟩⟩
  have N12 := newsAdds (l := [(ra, oa), (ru, ou)]) F N k11 (by
    intro p hp
    simp only [List.mem_cons, List.not_mem_nil, or_false] at hp
    rcases hp with rfl | rfl
    · exact ⟨hoa, hra0⟩
    · exact ⟨hou, hru0⟩)
  clear F N N11 hoa hou hra0 hru0 hT0
  have N13 := News.pick2 N12
  clear N12
  k_steps
  dsimp only
  have hp1 := pol_h d0 d1 d2 fc.c0 fc.cb fc.ba fc.a3
  have hp2 := pol_e d0 d1 d2 fc.c0 fc.cb fc.ba fc.a3
  have hp3 := pol_v d0 d1 d2 fc.c0 fc.cb fc.ba fc.a3
  rename Fr _ _ _ _ => F; rename News _ _ _ _ => N
  obtain ⟨m', ⟨hm1, hm2, hm3, hm4, hm5, hm6, hm7, hm8, hm9⟩, F13⟩ : ∃ m', (m' (Str.ofString "runs") = some (.ref lr) ∧ m' (Str.ofString "x") = some (.int d0 tx) ∧ m' (Str.ofString "y") = some (.int d1 ty) ∧ m' (Str.ofString "z") = some (.int d2 tz) ∧
    m' (Str.ofString "shape") = some (.ref as) ∧ m' (Str.ofString "table") = some (.ref rt) ∧ m' (Str.ofString "worth") = some (.int (worthOf [d0, d1, d2] (fillings a b c)) tw) ∧ m' (Str.ofString "alike") = some (.ref ra) ∧ m' (Str.ofString "unlike") = some (.ref ru)) ∧
    Fr s.heap s.heap.objs.size _ m' := ⟨_, ⟨rfl, rfl, rfl, rfl, rfl, rfl, rfl, rfl, rfl⟩, F⟩
  clear F
  have F4 := Fr.ov (l := [(Str.ofString "runs", _), (Str.ofString "x", _), (Str.ofString "y", _), (Str.ofString "z", _), (Str.ofString "shape", _), (Str.ofString "table", _), (Str.ofString "worth", _), (Str.ofString "alike", _), (Str.ofString "unlike", _)]) F13 (by intro p hp; simp only [List.mem_cons, List.not_mem_nil, or_false] at hp; rcases hp with rfl | rfl | rfl | rfl | rfl | rfl | rfl | rfl | rfl <;> assumption); clear F13
  generalize worthOf [d0, d1, d2] (fillings a b c) = W at bw hp1 hp2 hp3 F4 hm7
  have bdH : ∀ j, Bd 100000 ((hs d0 d1 d2).getD j 0) := hs_bd bx by_ bz
  have bdE : ∀ j, Bd 100000 ((es d0 d1 d2).getD j 0) := es_bd bx by_ bz
  -- the first determinant
  refine cExecs (cIf (cCompare (cCall1 .frame (.inl rfl) (cOf ?_))))
  k_steps
  refine cOf ?_
  k_steps
  rename Fr _ _ _ _ => F; rename News _ _ _ _ => N
  refine go_on ?_
  refine use (square_spec (hO (by exact F.keep)) ⟨va, ⟨oa, (N (ra, oa) (by k_mem)).1, hoac, na, hoad⟩, hva⟩ (hs_len _ _ _) ⟨_, ⟨_, (N _ (.head _)).1, rfl, _, rfl⟩, .cons _ _ (.cons _ _ (.cons _ _ .nil))⟩
    (Int.le_trans fc.c0 (Int.le_trans fc.cb fc.ba)) fc.a3 (Int.le_trans fc.c0 fc.cb) (Int.le_trans fc.ba fc.a3) fc.c0 (Int.le_trans fc.cb (Int.le_trans fc.ba fc.a3))) F N ((hRd _).le (by decide) (by decide)) ?_
  rintro _ h14 tk14 k14 F14 N14 ⟨rq, rfl, hq0, hmat⟩
  clear F N
  k_steps
  rename Fr _ _ _ _ => F; rename News _ _ _ _ => N
  refine go_on ⟨fun Q' h => keeper_fn (X _ _ rfl |> F.keep _ _) rfl Q' h, ?_⟩
  refine useC (determinant_spec (hO (by exact F.keep)) hmat rfl rfl rfl (row_bd bdH _ _) (row_bd bdH _ _) (row_bd bdH _ _)) F N ((hRd _).le (by decide) (by decide)) ?_
  rintro _ h15 tk15 k15 F15 N15 ⟨t15, rfl⟩
  have hp1' : sumv (detTab (row ([d0, d1, d2].foldl alikeOne [1, 0, 0, 0, 0, 0]) a 0) (row ([d0, d1, d2].foldl alikeOne [1, 0, 0, 0, 0, 0]) b 1) (row ([d0, d1, d2].foldl alikeOne [1, 0, 0, 0, 0, 0]) c 2)) = W := hp1
  rw [hp1']
  clear F N
  dsimp only at F15 N15 ⊢
  refine cOf ?_
  k_steps
  refine cOf ?_
  k_steps
  refine cPass (by simp) ?_
  (try dsimp only)
  -- the second determinant
  refine cExecs (cIf (cCompare (cCall1 .frame (.inl rfl) (cOf ?_))))
  k_steps
  refine cOf ?_
  k_steps
  rename Fr _ _ _ _ => F; rename News _ _ _ _ => N
  refine go_on ?_
  refine use (columns_spec (hO (by exact F.keep)) (wsN N (by k_mem) (by k_mem) (by k_mem) (by k_mem) g5) (okQ_of fc.q1).1) F N ((hRd _).le (by decide) (by decide)) ?_
  rintro _ h16 tk16 k16 F16 N16 ⟨rc, rfl, hrc0, hcols⟩
  clear F N
  k_steps
  have hcB : ∀ p ∈ colsI a b c, 0 ≤ p ∧ p ≤ 3 := by
    have := fc.colsB
    simp only [List.all_eq_true, Bool.and_eq_true, decide_eq_true_eq] at this
    exact this
  have c1 := hcB (cI 1 a b c) (.head _)
  have c2 := hcB (cI 2 a b c) (.tail _ (.head _))
  have c3 := hcB (cI 3 a b c) (.tail _ (.tail _ (.head _)))
  rw [fc.cols] at hcols
  rename Fr _ _ _ _ => F; rename News _ _ _ _ => N
  refine go_on ?_
  refine use (square_spec (hO (by exact F.keep)) (p0 := cI 1 a b c) (p1 := cI 2 a b c) (p2 := cI 3 a b c) ⟨vu, ⟨ou, (N (ru, ou) (by k_mem)).1, houc, nu, houd⟩, hvu⟩ (es_len _ _ _) hcols c1.1 c1.2 c2.1 c2.2 c3.1 c3.2) F N ((hRd _).le (by decide) (by decide)) ?_
  rintro _ h18 tk18 k18 F18 N18 ⟨rq2, rfl, hq20, hmat2⟩
  clear F N
  k_steps
  rename Fr _ _ _ _ => F; rename News _ _ _ _ => N
  refine go_on ⟨fun Q' h => keeper_fn (X _ _ rfl |> F.keep _ _) rfl Q' h, ?_⟩
  refine useC (determinant_spec (hO (by exact F.keep)) hmat2 rfl rfl rfl (row_bd bdE _ _) (row_bd bdE _ _) (row_bd bdE _ _)) F N ((hRd _).le (by decide) (by decide)) ?_
  rintro _ h19 tk19 k19 F19 N19 ⟨t19, rfl⟩
  have hp2' : sumv (detTab (row ([d0, d1, d2].foldl unlikeOne [1, 0, 0, 0, 0, 0]) (cI 1 a b c) 0) (row ([d0, d1, d2].foldl unlikeOne [1, 0, 0, 0, 0, 0]) (cI 2 a b c) 1) (row ([d0, d1, d2].foldl unlikeOne [1, 0, 0, 0, 0, 0]) (cI 3 a b c) 2)) = W := hp2
  rw [hp2']
  clear F N
  dsimp only at F19 N19 ⊢
  refine cOf ?_
  k_steps
  refine cOf ?_
  k_steps
  refine cPass (by simp) ?_
  (try dsimp only)
  clear k14 k15 k16 k18 hmat hmat2 hq0 hq20 hcols hrc0 hp1 hp1' hp2 hp2' hva hvu hoac hoad houc houd bdH bdE
  have N20 := News.pick3 N19
  clear N19
  -- powers
  rename Fr _ _ _ _ => F
  refine cExecs (cOf ?_)
  refine Assign_T F rfl (by with_unfolding_all rfl) (by with_unfolding_all rfl) (by decide) (by rfl) (by decide) (by rfl) (by rfl) (by rfl) ?_
  k_steps
  rename Fr _ _ _ _ => F; rename News _ _ _ _ => N
  refine go_on ⟨_, _, #[.int d0 tx, .int d1 ty, .int d2 tz], _, rfl, rfl, F, N, .head _, fun h e => ⟨_, e, rfl, _, rfl⟩, (by show 3 ≤ sizeLine; decide), fun g => ?_⟩
  refine CompRest.succ fun v I oI C oC D m₂ hh0 tkk E' hP hC hx F N off hne => ?_
  have hv : v = .int d0 tx := (Option.some.inj hP).symm
  subst hv
  k_steps
  rename Fr _ _ _ _ => F; rename News _ _ _ _ => N; refine go_on ?_; refine use (ipow_spec (hO (by exact F.keep)) _ _ _ _ (by omega) (bx.powOk (by omega) (by omega) (by decide))) F N ((hRd _).le (by decide) (by decide)) ?_
  rintro _ hxa tkxa kxa Fxa Nxa ⟨txa, rfl⟩
  clear F N
  k_steps
  rename Fr _ _ _ _ => F; rename News _ _ _ _ => N; refine go_on ?_; refine use (ipow_spec (hO (by exact F.keep)) _ _ _ _ (by omega) (bx.powOk (by omega) (by omega) (by decide))) F N ((hRd _).le (by decide) (by decide)) ?_
  rintro _ hxb tkxb kxb Fxb Nxb ⟨txb, rfl⟩
  clear F N
  k_steps
  rename Fr _ _ _ _ => F; rename News _ _ _ _ => N; refine go_on ?_; refine use (ipow_spec (hO (by exact F.keep)) _ _ _ _ (by omega) (bx.powOk (by omega) (by omega) (by decide))) F N ((hRd _).le (by decide) (by decide)) ?_
  rintro _ hxc tkxc kxc Fxc Nxc ⟨txc, rfl⟩
  clear F N
  k_steps
  rename Fr _ _ _ _ => F; rename News _ _ _ _ => N
  rename (_ < _ ∧ _) => hlt
  refine elt_end F N off hlt.1 hlt.2.1 hlt.2.2.1 (by k_mem) ?_
  clear F N hlt off hne hP hx hC
  refine CompRest.succ fun v I oI C oC D m₂ hh0 tkk E' hP hC hx F N off hne => ?_
  have hv : v = .int d1 ty := (Option.some.inj hP).symm
  subst hv
  k_steps
  rename Fr _ _ _ _ => F; rename News _ _ _ _ => N; refine go_on ?_; refine use (ipow_spec (hO (by exact F.keep)) _ _ _ _ (by omega) (by_.powOk (by omega) (by omega) (by decide))) F N ((hRd _).le (by decide) (by decide)) ?_
  rintro _ hya tkya kya Fya Nya ⟨tya, rfl⟩
  clear F N
  k_steps
  rename Fr _ _ _ _ => F; rename News _ _ _ _ => N; refine go_on ?_; refine use (ipow_spec (hO (by exact F.keep)) _ _ _ _ (by omega) (by_.powOk (by omega) (by omega) (by decide))) F N ((hRd _).le (by decide) (by decide)) ?_
  rintro _ hyb tkyb kyb Fyb Nyb ⟨tyb, rfl⟩
  clear F N
  k_steps
  rename Fr _ _ _ _ => F; rename News _ _ _ _ => N; refine go_on ?_; refine use (ipow_spec (hO (by exact F.keep)) _ _ _ _ (by omega) (by_.powOk (by omega) (by omega) (by decide))) F N ((hRd _).le (by decide) (by decide)) ?_
  rintro _ hyc tkyc kyc Fyc Nyc ⟨tyc, rfl⟩
  clear F N
  k_steps
  rename Fr _ _ _ _ => F; rename News _ _ _ _ => N
  rename (_ < _ ∧ _) => hlt
  refine elt_end F N off hlt.1 hlt.2.1 hlt.2.2.1 (by k_mem) ?_
  clear F N hlt off hne hP hx hC
  refine CompRest.succ fun v I oI C oC D m₂ hh0 tkk E' hP hC hx F N off hne => ?_
  have hv : v = .int d2 tz := (Option.some.inj hP).symm
  subst hv
  k_steps
  rename Fr _ _ _ _ => F; rename News _ _ _ _ => N; refine go_on ?_; refine use (ipow_spec (hO (by exact F.keep)) _ _ _ _ (by omega) (bz.powOk (by omega) (by omega) (by decide))) F N ((hRd _).le (by decide) (by decide)) ?_
  rintro _ hza tkza kza Fza Nza ⟨tza, rfl⟩
  clear F N
  k_steps
  rename Fr _ _ _ _ => F; rename News _ _ _ _ => N; refine go_on ?_; refine use (ipow_spec (hO (by exact F.keep)) _ _ _ _ (by omega) (bz.powOk (by omega) (by omega) (by decide))) F N ((hRd _).le (by decide) (by decide)) ?_
  rintro _ hzb tkzb kzb Fzb Nzb ⟨tzb, rfl⟩
  clear F N
  k_steps
  rename Fr _ _ _ _ => F; rename News _ _ _ _ => N; refine go_on ?_; refine use (ipow_spec (hO (by exact F.keep)) _ _ _ _ (by omega) (bz.powOk (by omega) (by omega) (by decide))) F N ((hRd _).le (by decide) (by decide)) ?_
  rintro _ hzc tkzc kzc Fzc Nzc ⟨tzc, rfl⟩
  clear F N
  k_steps
  rename Fr _ _ _ _ => F; rename News _ _ _ _ => N
  rename (_ < _ ∧ _) => hlt
  refine elt_end F N off hlt.1 hlt.2.1 hlt.2.2.1 (by k_mem) ?_
  clear F N hlt off hne hP hx hC
  refine CompRest.zero ?_
  intro DP hDP tkDP FDP NDP _
  (try dsimp only)
  have hm3 : Mat hDP DP (pwRow d0 a b c) (pwRow d1 a b c) (pwRow d2 a b c) :=
    ⟨_, _, _, ⟨_, (NDP _ (.head _)).1, rfl, _, rfl⟩, ⟨_, ⟨_, (NDP _ (.tail _ (.tail _ (.tail _ (.head _))))).1, rfl, _, rfl⟩, .cons _ _ (.cons _ _ (.cons _ _ .nil))⟩,
      ⟨_, ⟨_, (NDP _ (.tail _ (.tail _ (.head _)))).1, rfl, _, rfl⟩, .cons _ _ (.cons _ _ (.cons _ _ .nil))⟩, ⟨_, ⟨_, (NDP _ (.tail _ (.head _))).1, rfl, _, rfl⟩, .cons _ _ (.cons _ _ (.cons _ _ .nil))⟩⟩
  have N30 := News.pick5 NDP
  have pb : ∀ x, Bd 200 x → ∀ y ∈ pwRow x a b c, Bd 100000 y := fun x hx => pwRow_bd hx (by omega) (by omega) (by omega)
  clear NDP
  -- the third determinant
  refine cExecs (cIf (cCompare (cCall1 .frame (.inl rfl) (cOf ?_))))
  k_steps
  refine cOf ?_
  k_steps
  rename Fr _ _ _ _ => F; rename News _ _ _ _ => N
  (try dsimp only)
  refine go_on ⟨fun Q' h => keeper_fn (X _ _ rfl |> F.keep _ _) rfl Q' h, ?_⟩
  refine useC (determinant_spec (hO (by exact F.keep)) hm3 rfl rfl rfl (pb _ bx) (pb _ by_) (pb _ bz)) F N ((hRd _).le (by decide) (by decide)) ?_
  rintro _ h31 tk31 k31 F31 N31 ⟨t31, rfl⟩
  rw [hp3]
  clear F N hm3 k31
  (try dsimp only at F31 N31 ⊢)
  refine cOf ?_
  k_steps
  rename Fr _ _ _ _ => F; rename News _ _ _ _ => N; refine go_on ?_; refine use (isub_spec (hO (by exact F.keep)) _ _ _ _) F N ((hRd _).le (by decide) (by decide)) ?_
  rintro _ h32 tk32 k32 F32 N32 ⟨t32, rfl⟩
  clear F N
  (try dsimp only)
  k_steps
  refine go_on (mulBd bw (bx.sub by_) (by decide) ?_)
  intro t33
  (try dsimp only)
  k_steps
  rename Fr _ _ _ _ => F; rename News _ _ _ _ => N; refine go_on ?_; refine use (isub_spec (hO (by exact F.keep)) _ _ _ _) F N ((hRd _).le (by decide) (by decide)) ?_
  rintro _ h34 tk34 k34 F34 N34 ⟨t34, rfl⟩
  clear F N
  (try dsimp only)
  k_steps
  refine go_on (mulBd (bw.mul (bx.sub by_)) (bx.sub bz) (by decide) ?_)
  intro t35
  (try dsimp only)
  k_steps
  rename Fr _ _ _ _ => F; rename News _ _ _ _ => N; refine go_on ?_; refine use (isub_spec (hO (by exact F.keep)) _ _ _ _) F N ((hRd _).le (by decide) (by decide)) ?_
  rintro _ h36 tk36 k36 F36 N36 ⟨t36, rfl⟩
  clear F N
  (try dsimp only)
  k_steps
  refine go_on (mulBd ((bw.mul (bx.sub by_)).mul (bx.sub bz)) (by_.sub bz) (by decide) ?_)
  intro t37
  (try dsimp only)
  k_steps
  refine cOf ?_
  k_steps
  refine cPass (by simp) ?_
  (try dsimp only)
  clear hp3 bw pb
  -- the table turned
  have hTk : ∀ p ∈ fillings a b c, 0 ≤ p.1 ∧ p.1 ≤ 999 := fun p hp => ⟨(hT.1 p hp).1, (hT.1 p hp).2.1⟩
  refine cExecs (cIf (cOr (cCompare (cCall1 .frame (.inl rfl) (cOf ?_)))))
  k_steps
  refine cOf ?_
  k_steps
  rename Fr _ _ _ _ => F; rename News _ _ _ _ => N
  (try dsimp only)
  refine go_on ⟨fun Q' h => keeper_fn (X _ _ rfl |> F.keep _ _) rfl Q' h, ?_⟩
  refine useC (turned_spec (hO (by exact F.keep)) (IsD.ofN N (.head _) lo8 hio8 hf8) hTk (Nat.le_trans hT.2.1 (by decide))) F N ((hRd _).le (by decide) (by decide)) ?_
  rintro _ h41 tk41 k41 F41 N41 ⟨rt2, rfl, _, hTD⟩
  clear F N k41
  (try dsimp only at F41 N41 hTD ⊢)
  refine cOf ?_
  k_steps
  refine cOf ?_
  have hsm := sameTab_of fc.turn
  rename Fr _ _ _ _ => F; rename News _ _ _ _ => N
  refine kne_tabs (knd := PySem.intKind _ _) (enc := PyData.int) PyProof.V.same_int hTD (IsD.ofN N (.head _) lo8 hio8 hf8) hsm.1 (by have := (hRd (envOfC (Str.ofString "law") default 0 0 .none)).u; exact Nat.lt_of_le_of_lt (Nat.le_add_right _ _) this) hsm.2 ?_
  refine cTruthF rfl ?_
  refine cOf ?_
  k_steps
  rename Fr _ _ _ _ => F; rename News _ _ _ _ => N; refine go_on ?_; refine use (count_calls_spec (hO (by exact F.keep)) (IsD.ofN N (.head _) lo8 hio8 hf8)) F N ((hRd _).le (by decide) (by decide)) ?_
  rintro _ h42 tk42 k42 F42 N42 ⟨t42, rfl⟩
  clear F N hTD
  (try dsimp only)
  k_steps
  refine go_on (mulR (by decide) (by decide) ?_)
  intro t43
  (try dsimp only)
  k_steps
  refine go_on (mulR (by omega) (by omega) ?_)
  intro t44
  (try dsimp only)
  k_steps
  refine go_on (mulR (by omega) (by omega) ?_)
  intro t45
  (try dsimp only)
  rw [fc.sum]
  k_steps
  · rename (_ ≠ _) => hne
    exact absurd rfl hne
  rename ((a - b + 1) * (a - c + 2) * (b - c + 1) = _) => hj; clear hj
  rename News _ _ _ _ => N42
  refine cPure (a := Flow.next) ?_
  (try dsimp only)
  have N43 := N42
  clear N42
  dsimp only [List.cons_append, List.nil_append] at N43
  rename Fr _ _ _ _ => F
  refine cOf ?_
  exact law_tail (hO Keeps.rfl) hRd F N43 rfl rfl rfl lo8 hio8 hf8 fc hr0 hr1 hr2 g5 ho6 hcb hcc (fun h' tk k => hQ _ _ _ k rfl)
end Mine
end
section
open PySem PySem.W PyProof.Rows PySem.Calls PySem.Spec PyProof.V
set_option maxRecDepth 100000
set_option maxHeartbeats 8000000
namespace Mine
theorem walk : PartR hd := by
  unfold PartR
  k_fill
  intro w s₀ s₁ mg mb G Y fa o pm cd doc dV kV ho hd' hcd hD hmg hg args vals as hpre hlay hrd hwl hlo p
  have KX := kIn_of Y
  refine Ground.open G ?_
  intro T B D TE TW
  clear hd' ho hcd hD B D TE TW
  have hfa : fa = 205 := by
    have e := mg_of (n := Str.ofString "law") (v := .ref 205) KX T.g (by rfl)
    have e2 := e.symm.trans hmg
    injection e2 with e3
    injection e3 with e4
    exact e4.symm
  subst hfa
  wrow_args hpre hlay hrd hwl hlo
  rename (¬ _ < _) => hlen
  rename (IntsAre _ _) => hI
  rename (Heap.IsList _ _ _) => hL
  refine Sem.wp_mono _ _ _ (fun v p' s' h => ?good) (fun e p' s' h => h.elim) _ _ (law_spec ⟨KX, topRead_of T⟩ ⟨_, hL, hI⟩ (by omega) _ _ _ _
    (fun v s' => v = .bool true ∧ Keeps s₁.heap s'.heap ∧ s'.gens = s₁.gens ∧ s'.os = s₁.os) ⟨rfl, by decide +kernel, by decide +kernel⟩ (fun v h' tk k e => ⟨e, k, rfl, rfl⟩) Ctx0 p caller_in fun q => free_caller _ _ clean_nil)
  obtain ⟨rfl, hk, hgs, hos⟩ := h
  refine GoodW.toG ⟨.inl ⟨_, _, _, rfl, raisesW_false ?_, .bool true, ?_, unshared_nil⟩, hk, hos, hgs.trans hg⟩
  · wrow_none_raised
  · wrow_post
end Mine
end
theorem PySem.Challenge.cw_xp0024_01_holds : PySem.Challenge.rw_xp0024_01.Holds :=
  Mine.hdW Mine.walk

