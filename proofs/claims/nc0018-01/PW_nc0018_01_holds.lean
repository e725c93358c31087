import PyProof.Rows.All
import Wide.All
import OpenK.AllK
import Wide.FinOn
import PySem.Challenge.RW_nc0018_01
open PySem PySem.W PySem.Calls PyProof.Rows
set_option Elab.async false
set_option linter.all false
set_option compiler.extract_closed false
set_option maxRecDepth 100000
set_option maxHeartbeats 8000000
namespace Mine
section
noncomputable def runG (st : SharedT → Thread → Option (SharedT × Thread)) (ok th : Thread → Bool) : Nat → SharedT → Thread → Option SharedT
  | 0, _, _ => none
  | n + 1, s, t => match th t with
    | true => some s
    | false => match ok t with
      | false => none
      | true => match st s t with
        | some (s', t') => runG st ok th n s' t'
        | none => none
/-- what a run over the tree reaches, the run over the array reaches -/
theorem runG_of {tb : String → Option Builtin} {p : Program} {w : World} {n₀ : Nat} {ann : Option Value} {n : Nat} {s s' : SharedT} {t : Thread} (h : runG (stepT (denote tb) p w) (stepOk n₀ ann) through n s t = some s') : topRun tb p w n₀ ann n s.abs t = some s'.abs := by
  induction n generalizing s t with
  | zero => cases h
  | succ n ih =>
    simp only [runG] at h
    simp only [topRun]
    split at h
    · cases h
      simp only [*]
    · split at h
      · cases h
      · split at h
        · rename_i q
          have q' := stepT_spec q
          simp only [*]
        · cases h
/-- a list of objects as a tree -/
noncomputable def plant : List Obj → BT → Nat → Option (BT × Nat)
  | [], T, n => some (T, n)
  | o :: os, T, n => match ((T.ins n o).get n).isSome with
    | true => plant os (T.ins n o) (n + 1)
    | false => none
theorem plant_of {life : Life} : ∀ {l : List Obj} {T T' : BT} {n n' : Nat}, plant l T n = some (T', n') → absHeap T' n' life = ⟨(absHeap T n life).objs ++ l.toArray, life⟩
  | [], _, _, _, _, h => by cases h; simp; rfl
  | o :: os, T, T', n, n', h => by
    unfold plant at h
    cases g : ((T.ins n o).get n).isSome with
    | false => rw [g] at h; cases h
    | true =>
      rw [g] at h
      rw [plant_of h, absHeap_ins g]
      simp [Heap.push, absHeap]
noncomputable def topG (run : Nat → Option Value → SharedT → Option SharedT) (chk : Shared → Shared → Bool) (s₀ : Shared) : Option Shared :=
  match s₀.heap.isNs mainGlobals && s₀.gens.size == 0 with
  | true => match plant s₀.heap.objs.toList .nil 0 with
    | some (T, n) => match run s₀.heap.objs.size (s₀.heap.nsMap mainGlobals (Str.ofString "__annotations__")) ⟨T, n, s₀.heap.life, s₀.gens, s₀.drawn, s₀.toks, s₀.os⟩ with
      | some s₁ => match chk s₀ s₁.abs with
        | true => some s₁.abs
        | false => none
      | none => none
    | none => none
  | false => none
noncomputable def runOf (tb : String → Option Builtin) (p : Program) (w : World) (N n₀ : Nat) (ann : Option Value) (s : SharedT) : Option SharedT := runG (stepT (denote tb) p w) (stepOk n₀ ann) through N s (topStub p)
noncomputable def chkOf (p : Program) (s₀ s₁ : Shared) : Bool := staticsOk (importedModules p.main.body) s₀.heap s₁.heap && namesBound p s₁.heap && gensDone s₁ && laidKept s₀.heap s₁.heap
theorem topG_of {tb : String → Option Builtin} {p : Program} {w : World} {N : Nat} {s₀ s₁ : Shared} (h : topG (runOf tb p w N) (chkOf p) s₀ = some s₁) : topFrom tb p w N s₀ = some s₁ := by
  unfold topG at h
  unfold topFrom
  generalize (s₀.heap.isNs mainGlobals && s₀.gens.size == 0) = b at h ⊢
  cases b with
  | false => cases h
  | true =>
    cases e2 : plant s₀.heap.objs.toList .nil 0 with
    | none => rw [e2] at h; cases h
    | some q =>
      obtain ⟨T, n⟩ := q
      rw [e2] at h
      dsimp only at h ⊢
      have ea : (SharedT.mk T n s₀.heap.life s₀.gens s₀.drawn s₀.toks s₀.os).abs = s₀ := by
        obtain ⟨⟨⟨objs⟩, life⟩, gens, drawn, toks, os⟩ := s₀
        have := plant_of (life := life) e2
        show Shared.mk _ _ _ _ _ = _
        rw [this]
        simp [absHeap, BT.list]
      generalize SharedT.mk T n s₀.heap.life s₀.gens s₀.drawn s₀.toks s₀.os = sT at h ea
      generalize s₀.heap.nsMap mainGlobals (Str.ofString "__annotations__") = ann at h ⊢
      generalize e3 : runOf tb p w N s₀.heap.objs.size ann sT = r at h
      cases r with
      | none => cases h
      | some s₂ =>
        have := runG_of e3
        rw [ea] at this
        rw [this]
        exact h
theorem opens_of {α : Type} {F : Shared → α} {G : α} {tb : String → Option Builtin} {p : Program} {w : World} {N : Nat} (h : Option.map F ((fencedOpening tb p w N).bind (topG (runOf tb p w N) (chkOf p))) = some G) : Option.map F (openEnds tb p w N) = some G := by
  unfold openEnds
  generalize fencedOpening tb p w N = o at h ⊢
  cases o with
  | none => cases h
  | some s₀ =>
    rw [Option.bind_some] at h ⊢
    generalize e2 : topG (runOf tb p w N) (chkOf p) s₀ = r at h
    cases r with
    | none => cases h
    | some s₁ => rw [topG_of e2]; exact h
def viewQ : Program := { PySem.Challenge.pw_nc0018_01 with main := { PySem.Challenge.pw_nc0018_01.main with body := [0, 1, 3, 4, 5, 6, 7, 8, 9, 10, 12, 13, 15, 16, 17].filterMap fun i => PySem.Challenge.pw_nc0018_01.main.body[i]? } }
def looseQ : List Str := [Str.ofString "BIT_MASK", Str.ofString "SHIFT", Str.ofString "PythonPVector", Str.ofString "_EMPTY_PVECTOR", Str.ofString "python_pvector", Str.ofString "pvector"]
def lvQ : List (Str × WData) := [(Str.ofString "BIT_MASK", WData.int 31), (Str.ofString "SHIFT", WData.int 5)]
theorem ws : OpenLaw.wellSaid PySem.Challenge.rw_nc0018_01 = true := by
  rw [PySem.W.Fast.te9446332074065402090]
  kernel_rfl
local macro_rules | `(tactic| o_law) => `(tactic| refine holds_law ws fun said => ?_)
theorem head_of (H : Hook) {d : DefRec} {kwd : List (Str × PySem.Expr)} (h1 : defOf viewQ (RowW.name (OpenRow.toRowW (OpenLaw.row PySem.Challenge.rw_nc0018_01))) = some (d, kwd)) (h2 : Program.theDef (RowW.prog (OpenRow.toRowW (OpenLaw.row PySem.Challenge.rw_nc0018_01))) (RowW.name (OpenRow.toRowW (OpenLaw.row PySem.Challenge.rw_nc0018_01))) = some (d.params, d.body, d.scope)) (h3 : kwWritten? d.params.kwonlyargs d.params.kw_defaults = some kwd) (hs : OpenRow.wellSaid (OpenLaw.row PySem.Challenge.rw_nc0018_01) = true)
    (hl : LeftO (RowW.prog (OpenRow.toRowW (OpenLaw.row PySem.Challenge.rw_nc0018_01))) viewQ looseQ (fun s => xlAt viewQ lvQ s && recOk (RowW.records (OpenRow.toRowW (OpenLaw.row PySem.Challenge.rw_nc0018_01))) s) (Hook.obs H) (Hook.val H) 4816) (hw : RowW.promised (OpenRow.toRowW (OpenLaw.row PySem.Challenge.rw_nc0018_01)))
    (hc : WalkO viewQ looseQ (XL viewQ lvQ) (Hook.says H) (OpenRow.toRowW (OpenLaw.row PySem.Challenge.rw_nc0018_01)) d kwd fun f vs => call f vs) : OpenRow.Holds (OpenLaw.row PySem.Challenge.rw_nc0018_01) :=
  holds_open hl (Hook.of H) (Hook.keeps H) (fun s e => xl_of s (Bool.and_eq_true_iff.mp e).1) XL.keeps h1 h2 h3 (fun s e => recFacts_of (Bool.and_eq_true_iff.mp e).2) (by rfl) hs (by decide +kernel) ⟨rfl, rfl, rfl, rfl, rfl, by decide +kernel⟩ hw hc
local macro_rules | `(tactic| o_head $H) => `(tactic| (refine head_of $H (by rfl) (by rfl) (by rfl) (by first | assumption | decide +kernel) ?hl ?hw ?hc; (case hl => (intro w; refine opens_of ?_; unfold fencedOpening runOf chkOf; rw [PySem.W.Fast.te10156331382660048174, PySem.W.Fast.te11892475500146522536, PySem.W.Fast.te6613529449190102663, PySem.W.Fast.te10274390034422433532, PySem.W.Fast.te14364793385576792824, PySem.W.Fast.te1435165496053646825, PySem.W.Fast.te14289696077712309145, PySem.W.Fast.te5923862056798008813, PySem.W.Fast.te4187177175401517315]; kernel_rfl))))
open_top hd for PySem.Challenge.rw_nc0018_01
end

abbrev prg : Program := PySem.Challenge.rw_nc0018_01.row.prog


/-- what every call finds: the written part, the names -/
structure Gd (w : World) (mg mb : Str → Option Value) (h : Heap) : Prop where
  k : (hd.heap_1 w.params).In h
  t : ∃ p loose, TopRead p loose mg mb h

theorem Gd.keeps {w : World} {mg mb : Str → Option Value} {h h' : Heap} (G : Gd w mg mb h) (hk : ∀ b o, h.get? b = some o → h'.get? b = some o) : Gd w mg mb h' :=
  ⟨G.k.keeps hk, let ⟨p, l, T⟩ := G.t; ⟨p, l, T.keeps hk⟩⟩

structure Room (A : Around) (d : Nat) : Prop where
  depth : A.depth + d < recursionLimit
  units : A.units + 8 * d < cLine
  handled : A.handled = none

theorem Room.deeper {A : Around} {d : Nat} (R : Room A (d + 1)) (env : Env) : Room (A.deeper env) d :=
  ⟨by show A.depth + 1 + d < _; have := R.depth; omega, by show A.units + 3 + 8 * d < _; have := R.units; omega, R.handled⟩
theorem Room.less {A : Around} {d e : Nat} (R : Room A d) (h : e ≤ d) : Room A e :=
  ⟨by have := R.depth; omega, by have := R.units; omega, R.handled⟩

/-- everything stays -/
def Stay (h h' : Heap) : Prop := ∀ b o, h.get? b = some o → h'.get? b = some o
theorem Stay.refl (h : Heap) : Stay h h := fun _ _ e => e
theorem Stay.trans {h h' h'' : Heap} (a : Stay h h') (b : Stay h' h'') : Stay h h'' := fun x o e => b x o (a x o e)

section
variable {w : World} {A : Around} {E : Value → Shared → Prop} {s : Shared} {Q : Value → Shared → Prop}
/-- into a def of the written part -/
theorem enter {K : Frag} {f : Addr} {name qual : Str} {params : Arguments} {body : List Stmt} {scope : Scope} {dV kV doc pm cdv ct oc : Value} {an od : Option Addr} {osl : Array (Option Value)} {args : List Value} {binds : List (Str × Value)}
    (X : K.In s.heap) (hroom : A.depth < recursionLimit) (hlim : s.heap.NoLimit)
    (ho : K.lookup f = some ⟨oc, od, .func (fnOf name qual params body scope dV kV doc pm an cdv ct), osl⟩) (hcd : codeIn K cdv qual = true)
    (hbind : BindsTo s (fnOf name qual params body scope dV kV doc pm an cdv ct) ⟨args, []⟩ binds) (hloc : ∀ y ∈ binds, scope.names.lookup y.1 = some .local)
    (g : Heap) (hg : Stay g s.heap) (hgs : g.objs.size ≤ s.heap.objs.size)
    (h : ∀ h₁, Fr g s.heap.objs.size h₁ (fun y => binds.reverse.lookup y) → Stay s.heap h₁ →
      wpAny (model prg w) (A.deeper (envOf qual scope s.heap.objs.size f cdv)) (execs body (envOf qual scope s.heap.objs.size f cdv))
        (fun fl s' => Q (match fl with | .ret v => v | _ => .none) s') (fun _ _ => False)
        { s with heap := h₁, toks := s.toks + binds.length })
    (hcell : ∀ x ∈ scope.names, x.2 ≠ .cell) (hco : scope.isCoroutine = false) (hgen : scope.isGenerator = false) (hk : scope.kind = .function) :
    wpAny (model prg w) A (call (.ref f) args) Q E s := by
  refine wpAny_call ?_
  refine codeAny_call_def (fd := fnOf name qual params body scope dV kV doc pm an cdv ct) (body := body) (binds := binds) hroom (X _ _ ho) rfl hlim (codeRec_of X hcd) rfl hbind hcell hloc (fun h₁ hns hk₁ => ?_) hco hgen hk
  exact wpAny_mono (h h₁ ⟨hns, fun b o e => hk₁ b o (hg b o e), hgs⟩ hk₁) (fun fl s' hl => hl) fun _ _ z => z.elim
end
section
variable {prog : Program} {w : World} {M : Model} {A : Around} {E : Value → Shared → Prop} {h : Heap} {g : Array GenState} {d : Drawn} {t : Nat} {os : OsState}
theorem call_super_cls {D : Addr} {oD : Obj} {cdD : ClassData} {Q : Value → Shared → Prop}
    (hD : h.get? D = some oD) (hDt : oD.data = .cls cdD)
    (hsub : Looks (model prog w) h (isSubtype (.ref D) (.ref D)) true)
    (hq : ∀ h', h'.get? h.objs.size = some { cls := .type "super", dict := none, data := .fields #[.ref D, .ref D, .ref D], slots := #[] } → (∀ y o, h.get? y = some o → h'.get? y = some o) → Q (.ref h.objs.size) ⟨h', g, d, t, os⟩) :
    wpAny (model prog w) A (call (.type "super") [.ref D, .ref D]) Q E ⟨h, g, d, t, os⟩ := by
  refine ks_callType_codesW (Q₁ := fun obj s₁ => obj = .ref h.objs.size ∧ s₁ = ⟨h.push { cls := .type "super", data := .fields #[.none, .none, .none] }, g, d, t, os⟩) F.ks_called_super (ks_wpAny_checkTypeCall_super hD hDt) F.ks_entry_super_init
    (ks_code_super_new _ _ ⟨rfl, rfl⟩) fun obj s₁ h₁ => ?_
  obtain ⟨rfl, rfl⟩ := h₁
  have up : ∀ y o, h.get? y = some o → (h.push { cls := .type "super", data := .fields #[.none, .none, .none] }).get? y = some o := fun y o e => Heap.get?_push_of_some _ e
  have hso : (h.push { cls := .type "super", data := .fields #[.none, .none, .none] }).get? h.objs.size = some { cls := .type "super", dict := none, data := .fields #[.none, .none, .none], slots := #[] } := Heap.get?_push_at rfl rfl
  have hD' := up _ _ hD
  have hsub' := hsub.keeps up
  refine ⟨⟨_, hso, rfl⟩, F.ks_initArgs_super _ _ _, ?_⟩
  unfold Builtin.«super.__init__» noKeywords
  repeat (first | (with_reducible refine ks_wpAny_isType_cls hD' hDt ?_) | (with_reducible refine Looks.at hsub' ?_) | (with_reducible refine ks_wpAny_super_set3 hso ?_) | wp_step)
  all_goals first
    | (intro h' e k; exact ⟨rfl, hq h' e fun y o ey => k y o (Nat.ne_of_lt (Heap.lt_size ey)) (up y o ey)⟩)
    | (refine ks_wpAny_super_set3 hso ?_; intro h' e k; exact ⟨rfl, hq h' e fun y o ey => k y o (Nat.ne_of_lt (Heap.lt_size ey)) (up y o ey)⟩)

theorem super_ga_new {so D : Addr} {l₀ l : List Value} {K : Frag} {name : Str} {tk : Tok} {i : String} {ti : Value} {Q : Fin → Shared → Prop}
    (hso : h.get? so = some { cls := .type "super", dict := none, data := .fields #[.ref D, .ref D, .ref D], slots := #[] }) (hno : Looks (model prog w) h (opaqueClassAbove (.ref D)) none)
    (hC : Looks (model prog w) h (mroOf (.ref D)) l₀) (hl : (l₀.dropWhile (· != .ref D)).drop 1 = l) (X : K.In h)
    (hf : alongIn K name l = some (some (.builtin i))) (hfo : Looks (model prog w) h (typeOf (.builtin i)) ti) (hg : Looks (model prog w) h (typeLookup ti "__get__") none) (hh : handedOut (.builtin i) = pure (.builtin i)) (hn : (name == ("__class__" : Str)) = false)
    (hq : Q (.done (.ret (.builtin i))) ⟨h, g, d, t, os⟩) :
    wpAny (model prog w) A (Builtin.«super.__getattribute__» ⟨[.ref so, .str name tk], []⟩) Q E ⟨h, g, d, t, os⟩ := by
  have hdt : ({ cls := .type "super", dict := none, data := .fields #[.ref D, .ref D, .ref D], slots := #[] } : Obj).data = .fields #[.ref D, .ref D, .ref D] := rfl
  have f0 : (#[.ref D, .ref D, .ref D] : Array Value)[0]? = some (.ref D) := rfl
  have f1 : (#[.ref D, .ref D, .ref D] : Array Value)[1]? = some (.ref D) := rfl
  have f2 : (#[.ref D, .ref D, .ref D] : Array Value)[2]? = some (.ref D) := rfl
  unfold Builtin.«super.__getattribute__»
  repeat (first
    | (with_reducible refine wpAny_field hso hdt f0 ?_) | (with_reducible refine wpAny_field hso hdt f1 ?_) | (with_reducible refine wpAny_field hso hdt f2 ?_)
    | (with_reducible refine ks_wpAny_notOpaque hno ?_)
    | (with_reducible refine Looks.at hC ?_; rw [hl])
    | (refine ks_forIn_along X (fun _ _ => rfl) rfl ?_ hf)
    | (with_reducible refine Looks.at hfo ?_)
    | (with_reducible refine Looks.at hg ?_)
    | (rw [hh])
    | (simp -zeta -zetaHave only [hn, Bool.or_false])
    | wp_step
    | dsimp only)
  all_goals exact hq

theorem getMethod_super_new {so D : Addr} {l₀ l : List Value} {K : Frag} {name : Str} {pl : Sem Bool} {i : String} {ti : Value} {Q : Value × List Value → Shared → Prop}
    (hso : h.get? so = some { cls := .type "super", dict := none, data := .fields #[.ref D, .ref D, .ref D], slots := #[] }) (hno : Looks (model prog w) h (opaqueClassAbove (.ref D)) none)
    (hC : Looks (model prog w) h (mroOf (.ref D)) l₀) (hl : (l₀.dropWhile (· != .ref D)).drop 1 = l) (X : K.In h)
    (hf : alongIn K name l = some (some (.builtin i))) (hfo : Looks (model prog w) h (typeOf (.builtin i)) ti) (hg : Looks (model prog w) h (typeLookup ti "__get__") none) (hh : handedOut (.builtin i) = pure (.builtin i)) (hn : (name == ("__class__" : Str)) = false)
    (hq : Q (.builtin i, []) ⟨h, g, d, t + 1, os⟩) :
    wpAny (model prog w) A (getMethod (.ref so) name pl) Q E ⟨h, g, d, t, os⟩ := by
  have hlk := F.ks_slot_super_ga.lookup
  have hcan := F.ks_canon_super_ga
  have hT : ∀ t', (⟨h, g, d, t', os⟩ : Shared).TypeIs (.ref so) "super" := fun _ => ⟨_, hso, rfl⟩
  unfold getMethod
  refine wpAny_bind (wpAny_specialOf (hT _) hlk ?_)
  show wpAny _ _ (if (Manifest.canonical "super.__getattribute__" != "object.__getattribute__") = true then _ else _) _ _ _
  rw [if_pos hcan]
  unfold getAttr getAttrBy
  refine wpAny_bind (wpAny_bind (wpAny_mkText (wpAny_holding (wpAny_bind (wpAny_typeOf (hT _) (wpAny_bind (wpAny_of_eq hlk ?_)))))))
  show wpAny _ _ (getAttrByItsOwn (.ref so) (.str name t) (.type "super") (.builtin "super.__getattribute__") true false) _ _ _
  unfold getAttrByItsOwn hookBefore callGetattribute boundAndCalled
  refine wpAny_bind (wpAny_of_eq (show (if onTheHeap (.type "super") then typeLookup (.type "super") "__getattr__" else pure none) = pure none from rfl) ?_)
  refine wpAny_bind (wpAny_attempt (wpAny_holding ?_))
  show wpAny _ _ (bindSpecial (.builtin "super.__getattribute__") (.ref so) >>= _) _ _ _
  refine wpAny_bind (wpAny_of_eq (F.ks_slot_super_ga.bind _) ?_)
  refine wpAny_mono (Q := fun v s' => v = .builtin i ∧ s' = ⟨h, g, d, t + 1, os⟩) (E := fun _ _ => False)
    (wpAny_call_entry F.ks_slot_super_ga (hT _) F.ks_entry_super_ga (super_ga_new hso hno hC hl X hf hfo hg hh hn ⟨_, rfl, rfl, rfl⟩) (F.ks_gaArgs_super _ _)) (fun v s' hv => ?_) fun _ _ z => z.elim
  obtain ⟨rfl, rfl⟩ := hv
  show wpAny _ _ (handedOut (.builtin i)) _ _ _
  rw [hh]
  exact wpAny_pure (wpAny_pure hq)
end
section
open PySem PySem.W PySem.Calls PyProof.Rows Builtin Builtin.ObjectAttr Builtin.Getset_descriptor
section
variable {prog : Program} {w : World} {M : Model} {A : Around} {E : Value → Shared → Prop} {h : Heap} {g : Array GenState} {d : Drawn} {t : Nat} {os : OsState}
theorem madeBy_object : Bind.madeBy (.type "object") = pure (some "object.__new__") := by
  kernel_rfl

theorem bestBase_object : Slots.bestBase [.type "object"] = pure (.type "object") := by kernel_rfl

theorem madeBy_own {K : Frag} {C : Addr} {oc : Value} {od : Option Addr} {cd : ClassData} {sl : Array (Option Value)} {c : Value} {l : List Value} (X : K.In h) (ho : K.lookup C = some ⟨oc, od, .cls cd, sl⟩) (hl : cd.mro = c :: l) (h4 : (sl.toList[4]?).join = some .none) :
    Looks M h (Bind.madeBy (.ref C)) none := by
  have hc : clsIn K C = some cd := by unfold clsIn; rw [ho]
  have hm : Looks M h (mroOf (.ref C)) cd.mro := (looks_clsIn X hc).andThen .now
  intro A Q E s k q
  unfold Bind.madeBy
  refine wpAny_bind (hm A _ E s k ?_)
  rw [hl, List.forIn_cons]
  refine wpAny_bind (wpAny_bind (wpAny_bind (wpAny_bind (wpAny_loadPart (k _ _ (X _ _ ho)) (wpAny_pure ?_)))))
  dsimp only
  rw [← Array.getElem?_toList, h4]
  exact wpAny_pure (wpAny_pure (wpAny_pure q))
theorem staticBase_own {K : Frag} {C : Addr} {oc : Value} {od : Option Addr} {cd : ClassData} {sl : Array (Option Value)} {c c2 : Value} {l : List Value} (X : K.In h) (ho : K.lookup C = some ⟨oc, od, .cls cd, sl⟩) (hl : cd.mro = c :: c2 :: l) (h4 : (sl.toList[4]?).join = some .none) (hb : cd.bases = [.type "object"]) :
    Looks M h (Bind.staticBase (.ref C)) (.type "object") := by
  have hc : clsIn K C = some cd := by unfold clsIn; rw [ho]
  have hm : Looks M h (mroOf (.ref C)) cd.mro := (looks_clsIn X hc).andThen .now
  have made := madeBy_own (M := M) X ho hl h4
  intro A Q E s k q
  unfold Bind.staticBase
  refine wpAny_bind (hm A _ E s k ?_)
  rw [hl, List.forIn_cons]
  refine wpAny_bind (wpAny_bind (wpAny_bind (made A _ E s k ?_)))
  dsimp only [Option.isSome]
  rw [if_neg (by decide)]
  refine wpAny_bind ((looks_clsIn X hc) A _ E s k ?_)
  rw [hb, bestBase_object]
  refine wpAny_bind (wpAny_pure (wpAny_pure ?_))
  dsimp only
  rw [List.forIn_cons]
  dsimp only
  rw [madeBy_object]
  exact wpAny_bind (wpAny_bind (wpAny_pure (wpAny_pure (wpAny_pure (wpAny_pure q)))))
theorem madeHere_own {K : Frag} {C : Addr} {oc : Value} {od : Option Addr} {cd : ClassData} {sl : Array (Option Value)} {c c2 : Value} {l : List Value} (X : K.In h) (ho : K.lookup C = some ⟨oc, od, .cls cd, sl⟩) (hl : cd.mro = c :: c2 :: l) (h4 : (sl.toList[4]?).join = some .none) (hb : cd.bases = [.type "object"]) :
    Looks M h (Bind.madeHere "object.__new__" (.ref C)) () := by
  refine (staticBase_own X ho hl h4 hb).andThen ?_
  rw [madeBy_object]
  exact Looks.of_pure (by kernel_rfl)

theorem new_own {K : Frag} {C : Addr} {oc : Value} {od : Option Addr} {cd : ClassData} {sl : Array (Option Value)} {c c2 : Value} {l : List Value} {R : Result → Shared → Prop} (X : K.In h) (ho : K.lookup C = some ⟨oc, od, .cls cd, sl⟩) (hl : cd.mro = c :: c2 :: l) (h4 : (sl.toList[4]?).join = some .none) (hb : cd.bases = [.type "object"])
    (e1 : cd.abstract = false) (e2 : cd.hasDel = false) (hs : Looks (model prog w) h (isSubtype (.ref C) (.type "object")) true)
    (hq : R (.ok (.ret (.ref (h.objs.size + 1)))) ⟨(h.push emptyDict).push (instObj C h.objs.size), g, d, t, os⟩) :
    codeAny (model prog w) A (.call (.builtin "object.__new__") ⟨[.ref C], []⟩) R ⟨h, g, d, t, os⟩ := by
  have here := madeHere_own (M := model prog w) X ho hl h4 hb
  have base := staticBase_own (M := model prog w) X ho hl h4 hb
  have made : Looks (model prog w) h (Bind.madeBy (.type "object")) (some "object.__new__") := Looks.of_pure madeBy_object
  have hC := X _ _ ho
  have F := PySem.F.objNew
  refine codeAny_call_builtin_code (Code.quiet_builtin _ F.quiet) ?_
  simp only [checkBuiltinCall, F.kind, F.split, F.row]
  have args : Bind.checkArgs "object.__new__" ⟨.hand, "object.__new__", "__new__", .cls, []⟩ ⟨[.ref C], []⟩ = pure () := by kernel_rfl
  rw [args]
  repeat (first | simp only [bne_self_eq_false, Bool.false_eq_true, if_false] | lk)
  refine codeAny_builtin F.entry ?_
  unfold Builtin.«object.__new__»
  have fin : ∀ A', wpAny (model prog w) A' (do
      let d ← if typeHasDict (.ref C) then some <$> alloc { cls := .type "dict", data := .dict #[] } else pure none
      ret (← newObj (.ref C) .plain d)) (fun fin s' => match fin with | .done f => R (.ok f) s' | .again c' => c'.quiet = true ∧ codeAny (model prog w) A c' R s') (fun e s' => R (.error e) s') ⟨h, g, d, t, os⟩ := by
    intro A'
    show wpAny _ _ ((alloc emptyDict >>= fun x => pure (some x)) >>= _) _ _ _
    refine wpAny_bind (wpAny_bind (wpAny_alloc (wpAny_pure (wpAny_bind ?_))))
    show wpAny _ _ (newObjAsIs _ _ _) _ _ _
    unfold newObjAsIs classHasDel
    refine wpAny_bind (wpAny_alloc (wpAny_bind (wpAny_bind (wpAny_load (Heap.get?_push_of_some _ (Heap.get?_push_of_some _ hC)) (wpAny_pure ?_)))))
    rw [e2]
    refine wpAny_pure (wpAny_pure ?_)
    show R _ _
    rw [Heap.size_push]
    exact hq
  repeat (first | simp -zeta -zetaHave only [e1, Bool.false_eq_true, if_false] | exact fin _ | lk)
end
end
section
theorem fill2 : (fun (_ : OpenLaw) (_ : Params → Frag) => True) PySem.Challenge.rw_nc0018_01 hd.heap_1 := by
  k_fill
  exact True.intro
section
variable {w : World} {A : Around} {E : Value → Shared → Prop} {s : Shared} {Q : Value → Shared → Prop} {mg mb : Str → Option Value}
/-- into a def of the written part that keeps cells -/
theorem enterX {K : Frag} {f : Addr} {name qual : Str} {params : Arguments} {body : List Stmt} {scope : Scope} {cl : List (Str × Addr)} {dV kV doc pm cdv ct oc : Value} {an od : Option Addr} {osl : Array (Option Value)} {args : List Value} {binds : List (Str × Value)}
    (X : K.In s.heap) (hroom : A.depth < recursionLimit) (hlim : s.heap.NoLimit)
    (ho : K.lookup f = some ⟨oc, od, .func (fnX name qual params body scope cl dV kV doc pm an cdv ct), osl⟩) (hcd : codeIn K cdv qual = true)
    (hbind : BindsTo s (fnX name qual params body scope cl dV kV doc pm an cdv ct) ⟨args, []⟩ binds) (hloc : ∀ y ∈ binds, scope.names.lookup y.1 = some .local)
    (g : Heap) (hg : Stay g s.heap) (hgs : g.objs.size ≤ s.heap.objs.size)
    (h : ∀ h₁, Fr g s.heap.objs.size h₁ (fun y => binds.reverse.lookup y) → Stay s.heap h₁ →
      wpAny (model prg w) (A.deeper (envX qual scope s.heap.objs.size f cdv cl)) (execs body (envX qual scope s.heap.objs.size f cdv cl))
        (fun fl s' => Q (match fl with | .ret v => v | _ => .none) s') (fun _ _ => False)
        { s with heap := h₁, toks := s.toks + binds.length })
    (hcell : ∀ x ∈ scope.names, x.2 ≠ .cell) (hco : scope.isCoroutine = false) (hgen : scope.isGenerator = false) (hk : scope.kind = .function) :
    wpAny (model prg w) A (call (.ref f) args) Q E s := by
  refine wpAny_call ?_
  refine codeAny_call_def (fd := fnX name qual params body scope cl dV kV doc pm an cdv ct) (body := body) (binds := binds) hroom (X _ _ ho) rfl hlim (codeRec_of X hcd) rfl hbind hcell hloc (fun h₁ hns hk₁ => ?_) hco hgen hk
  exact wpAny_mono (h h₁ ⟨hns, fun b o e => hk₁ b o (hg b o e), hgs⟩ hk₁) (fun fl s' hl => hl) fun _ _ z => z.elim

theorem super_K {prog : Program} {K : Frag} {D L : Addr} {h₀ : Heap} {m : Str → Option Value} {news : List (Addr × Obj)} {oc : Value} {od : Option Addr} {cd : ClassData} {sl : Array (Option Value)}
    (F : Fr h₀ L s.heap m) (X₀ : K.In h₀) (N : News h₀ L s.heap news) (ho : K.lookup D = some ⟨oc, od, .cls cd, sl⟩) (hsub : mroIn K D (.ref D) = some true)
    (h : ∀ so h', Fr h₀ L h' m → News h₀ L h' ((so, ks_superObj D D D) :: news) → (∀ p ∈ news, p.1 < so) → Q (.ref so) { s with heap := h' }) :
    wpAny (model prog w) A (call (.type "super") [.ref D, .ref D]) Q E s := by
  have X : K.In s.heap := X₀.keeps F.keep
  obtain ⟨hh, g, d, t, os⟩ := s
  refine call_super_cls (X _ _ ho) rfl (looks_mroIn X hsub) (fun h' e k => ?_)
  obtain ⟨F', N', l'⟩ := ks_newsPush (s := ⟨hh, g, d, t, os⟩) F N rfl e k
  exact h _ _ F' N' l'
theorem superMeth_K {prog : Program} {K : Frag} {so D L : Addr} {h₀ : Heap} {m : Str → Option Value} {news : List (Addr × Obj)} {i : String} {ti : Value} {name : Str} {pl : Sem Bool} {Q : Value × List Value → Shared → Prop}
    (F : Fr h₀ L s.heap m) (X₀ : K.In h₀) (N : News h₀ L s.heap news) (hso : (so, ks_superObj D D D) ∈ news) (ho : nsIn K cStatics "thirdparty.any" = some none)
    (hm : ks_superIn K D D name = some (some (.builtin i))) (ht : typeIn K (.builtin i) = some ti) (hg : findIn K ti "__get__" = some none) (hh : handedIn (.builtin i) = true) (hn : (name == ("__class__" : Str)) = false)
    (h : Q (.builtin i, []) { s with toks := s.toks + 1 }) : wpAny (model prog w) A (getMethod (.ref so) name pl) Q E s := by
  have X : K.In s.heap := X₀.keeps F.keep
  obtain ⟨hp, g, d, t, os⟩ := s
  cases hc : clsIn K D with
  | none => unfold ks_superIn at hm; rw [hc] at hm; cases hm
  | some cd =>
    unfold ks_superIn at hm
    rw [hc] at hm
    refine getMethod_super_new (N _ hso).1 (looks_opaque X ho) (l₀ := cd.mro) ?_ rfl X hm (looks_typeIn X ht) (looks_findIn X hg) (handedOut_of hh) hn h
    exact fun A Q E s k q => wpAny_bind ((looks_clsIn X hc) A _ E s k (wpAny_pure q))
theorem newObj_K {prog : Program} {K : Frag} {C L : Addr} {h₀ : Heap} {m : Str → Option Value} {news : List (Addr × Obj)} {oc : Value} {od : Option Addr} {cd : ClassData} {sl : Array (Option Value)} {c c2 : Value} {l : List Value}
    (F : Fr h₀ L s.heap m) (X₀ : K.In h₀) (N : News h₀ L s.heap news) (ho : K.lookup C = some ⟨oc, od, .cls cd, sl⟩) (hl : cd.mro = c :: c2 :: l) (h4 : (sl.toList[4]?).join = some .none) (hb : cd.bases = [.type "object"])
    (e1 : cd.abstract = false) (e2 : cd.hasDel = false) (hsub : mroIn K C (.type "object") = some true)
    (h : ∀ x dx h', Fr h₀ L h' m → News h₀ L h' ((x, instObj C dx) :: (dx, dictOf [] 0) :: news) → (∀ p ∈ news, p.1 < dx) → dx < x → Q (.ref x) { s with heap := h' }) :
    wpAny (model prog w) A (call (.builtin "object.__new__") [.ref C]) Q E s := by
  have X : K.In s.heap := X₀.keeps F.keep
  obtain ⟨hh, g, d, t, os⟩ := s
  have N' := (N.push F emptyDict).push (F.push _) (instObj C hh.objs.size)
  rw [Heap.size_push] at N'
  exact wpAny_call (new_own X ho hl h4 hb e1 e2 (looks_mroIn X hsub) (h _ hh.objs.size _ ((F.push _).push _) N' (fun p hp => Heap.lt_size (N p hp).1) (Nat.lt_succ_self _)))

local macro_rules | `(tactic| walk_at "eval Name") => `(tactic| (k_here; k_dflt (refine' nameX_B ?F ?X ?T ?e ?v ?n ?_ ?a ?b; (case F => k_asm); (case X => k_asm); (case T => k_asm); (case a => rfl); (case b => rfl); (case e => k_is); (case v => boot_by_name); (case n => decide); k_whole)))
local macro_rules | `(tactic| walk_at "callWith type:super") => `(tactic| with_unfolding_all refine Pv.callWith_type1 ?_)
local macro_rules | `(tactic| walk_at "call type:super") => `(tactic| (k_here; k_dflt (refine' super_K ?F ?X ?N ?o ?m ?_; (case F => k_asm); (case X => k_asm); (case N => k_asm); (case o => k_is); (case m => k_is); k_whole); intro so' h' F' N' l1; (try k_lt l1)))
local macro_rules | `(tactic| walk_at "getMethod ref") => `(tactic| (k_here; k_dflt (refine' superMeth_K (i := "object.__new__") ?F ?X ?N ?o ?m ?a ?b ?c ?d ?e ?_; (case F => k_asm); (case X => k_asm); (case N => k_asm); (case o => k_mem); (case m => k_is); (case a => kernel_rfl); (case b => k_is); (case c => k_is); (case d => k_handed); (case e => decide); k_whole)))
local macro_rules | `(tactic| walk_at "call builtin:object.__new__") => `(tactic| (k_here; k_dflt (refine' newObj_K ?F ?X ?N ?o ?a ?b ?c ?d ?e ?f ?_; (case F => k_asm); (case X => k_asm); (case N => k_asm); (case o => k_is); (case a => exact rfl); (case b => exact rfl); (case c => exact rfl); (case d => exact rfl); (case e => exact rfl); (case f => k_is); k_whole); intro x' d' h' F' N' l1 l2; (try k_lt l1); (try k_lt2 l2); (try k_sweep)))
abbrev vobj (dx : Addr) (c : Int) (tc : Tok) (r : Addr) (sh : Int) (ts : Tok) (t : Addr) (off : Int) (to : Tok) : Obj :=
  ⟨.ref 303, some dx, .plain, [some (.int c tc), some (.ref r), some (.int sh ts), some (.ref t), some (.int off to)].toArray⟩
theorem len_base {L l : Addr} {h₀ : Heap} {m : Str → Option Value} {vs : List Value} (F : Fr h₀ L s.heap m) (hl : h₀.IsList l vs.toArray) (hz : vs.length ≤ 1000000)
    (h : Q (.int vs.length (s.toks + 1)) { s with toks := s.toks + 1 + 1 }) : wpAny (model prg w) A (call (.builtin "len") [.ref l]) Q E s := by
  have e : (List.toArray vs).size = vs.length := List.size_toArray
  exact call_len_list (hl.at fun o q => F.keep _ _ q) (by rw [e]; omega) (by rw [e]; exact h)
local macro_rules | `(tactic| walk_at "call builtin:len") => `(tactic| (k_here; k_dflt (refine' len_base ?F ?l ?z ?_; (case F => k_asm); (case l => k_asm); (case z => k_asm); k_whole)))
theorem new_spec {p : Program} {loose : List Str} {c sh : Int} {tc ts : Tok} {r t : Addr} {vs : List Value} (X : (hd.heap_1 w.params).In s.heap) (T : TopRead p loose mg mb s.heap) (R : Room A 1) 
  (hl : s.heap.IsList t vs.toArray) (hz : vs.length ≤ 1000000)
  (h : ∀ h' tk a dx to, Stay s.heap h' → s.heap.get? a = none → h'.get? a = some (vobj dx c tc r sh ts t (c - vs.length) to) → h'.get? dx = some (dictOf [] 0) → Q (.ref a) { s with heap := h', toks := tk }) : wpAny (model prg w) A (call (.ref 78) [.ref 303, .int c tc, .int sh ts, .ref r, .ref t]) Q E s := by
  refine' enterX X ?r T.nolimit ?k6 ?k7 ?k9 ?kB s.heap (Stay.refl _) (Nat.le_refl _) ?_ ?c5 ?c2 ?c3 ?c4
  (case r => have := R.depth; omega)
  (case k6 => k_dflt k_is)
  (case k7 => k_dflt k_is)
  (case k9 => exact BindsTo.of_eq rfl)
  (case kB => exact locs rfl)
  (case c5 => decide)
  (case c2 => exact rfl)
  (case c3 => exact rfl)
  (case c4 => exact rfl)
  intro h₁ F S
  have N : News s.heap s.heap.objs.size h₁ [] := News.nil
  dsimp only
  k_steps
  rename Fr _ _ _ _ => F'
  rename News _ _ _ _ => N'
  exact h _ _ _ _ _ F'.keep (N'.fresh (.head _)) (N'.get (.head _)) (N'.get (.tail _ (.head _)))
end
end
section
open PySem PySem.W PySem.Calls PyProof.Rows Builtin Builtin.ObjectAttr Builtin.Getset_descriptor
theorem fill3 : (fun (_ : OpenLaw) (_ : Params → Frag) => True) PySem.Challenge.rw_nc0018_01 hd.heap_1 := by
  k_fill
  exact True.intro
section
variable {w : World} {A : Around} {E : Value → Shared → Prop} {s : Shared} {Q : Value → Shared → Prop} {mg mb : Str → Option Value}
theorem mk_core {prog : Program} {K : Frag} {C f q : Addr} {oc : Value} {od : Option Addr} {cd : ClassData} {sl : Array (Option Value)} {c c2 mc : Value} {l rest rr : List Value} {h : Heap} {g : Array GenState} {d : Drawn} {t : Nat} {os : OsState} (X : K.In h) (ho : K.lookup C = some ⟨oc, od, .cls cd, sl⟩) (hl : cd.mro = c :: c2 :: l) (h4 : (sl.toList[4]?).join = some .none)
    (hc1 : specialIn K (.ref C) "__call__" = some (some (.builtin "type.__call__"))) (hc2 : instIn K (.ref C) (.type "type") = some true)
    (hr : readsIn K C mc = true) (e : findCls K (.ref C) mc "__new__" = some (.get (.builtin "staticmethod.__get__") (.ref q) .none (.ref C))) (hp : recIn K q "staticmethod" = some (.ref f :: rr))
    (hne : rest ≠ []) (hi : findIn K (.ref C) "__init__" = some (some (.builtin "object.__init__"))) (hs : mroIn K C (.ref C) = some true) (hs2 : mroIn K C (.type "object") = some true)
    (hq : wpAny (model prog w) (A.under (.builtin "type.__call__" ⟨.ref C :: rest, []⟩)) (call (.ref f) (.ref C :: rest)) (fun obj s' => ∃ x ox, obj = .ref x ∧ s'.heap.get? x = some ox ∧ ox.cls = .ref C ∧ K.In s'.heap ∧ Q obj s') (fun _ _ => False) ⟨h, g, d, t + 1, os⟩) :
    wpAny (model prog w) A (call (.ref C) rest) Q E ⟨h, g, d, t, os⟩ := by
  have hC := X _ _ ho
  have cal := looks_specialIn (M := model prog w) X hc1
  have typ := looks_instIn (M := model prog w) X hc2
  have made := madeBy_own (M := model prog w) X ho hl h4
  refine wpAny_call (codeAny_of_tree ?_)
  show wpAny _ _ (callAny (.ref C) _) _ _ _
  refine nd_load hC ?_
  show wpAny _ _ (callAny.viaDunder (.ref C) _) _ _ _
  unfold callAny.viaDunder
  refine wpAny_bind (cal.at ?_)
  dsimp only
  rw [tc_bind]
  refine wpAny_bind (wpAny_pure (wpAny_bind (wpAny_pure ?_)))
  refine wpAny_pure (a := Fin.again (.call (.builtin "type.__call__") ⟨.ref C :: rest, []⟩)) (And.intro rfl ?_)
  refine codeAny_call_builtin_at (Code.quiet_builtin _ (by decide +kernel)) entry_typeCall (check_slot tc_kind tc_split typ (tc_args _ _ _) ?_)
  unfold Builtin.«type.__call__»
  have hm : Looks (model prog w) h (mroOf (.ref C)) cd.mro := ((Looks.ld (part := none) hC).andThen .now).andThen .now
  repeat (first | (with_reducible refine cls_bind (s := ⟨h, g, d, t, os⟩) X hr e (wpAny_call (sm_get (s := ⟨h, g, d, t + 1, os⟩) X hp (handed_on rfl ?_)))) | (with_reducible refine wpAny_mono hq ?_ (fun _ _ z => z.elim)) | simp -zeta -zetaHave only [hl, List.isEmpty_cons, Bool.false_eq_true, if_false] | lk)
  rintro _ ⟨h', g', d', t', os'⟩ ⟨x, ox, rfl, hx, hcls, X', hQ⟩
  have t1 : Looks (model prog w) h' (typeOf (.ref x)) (.ref C) := (Looks.ld hx).andThen (by rw [hcls]; exact .now)
  have s1 := looks_mroIn (M := model prog w) X' hs
  have i1 := looks_findIn (M := model prog w) X' hi
  have b1 : Looks (model prog w) h' (bindSpecial (.builtin "object.__init__") (.ref x)) (.builtin "object.__init__", [.ref x]) := Looks.of_pure (oi_bind _)
  have made' := madeBy_own (M := model prog w) X' ho hl h4
  have t2 : Looks (model prog w) h' (isInstance (.ref x) (.type "object")) true := t1.andThen (looks_mroIn X' hs2)
  unfold isInstance callSpecial? specialOf
  repeat (first | with_reducible refine wpAny_call ?_ | lk)
  obtain ⟨r0, rt, rfl⟩ := List.exists_cons_of_ne_nil hne
  refine codeAny_call_builtin oi_plain entry_oi (@check_slot (model prog w) _ _ _ "object.__init__" "object" "__init__" (.ref x) (r0 :: rt) [] _ oi_kind oi_split t2 (by unfold argsOk; kernel_rfl) ?_)
  unfold Builtin.«object.__init__»
  repeat (first | simp -zeta -zetaHave only [bne_self_eq_false, Bool.false_eq_true, if_false] | lk)
  exact hQ
theorem under_tc_units (A : Around) (C : Addr) (vals : List Value) : (A.under (.builtin "type.__call__" ⟨.ref C :: vals, []⟩)).units = A.units + 1 := rfl
theorem mk_spec {p : Program} {loose : List Str} {c sh : Int} {tc ts : Tok} {r t : Addr} {vs : List Value} (X : (hd.heap_1 w.params).In s.heap) (T : TopRead p loose mg mb s.heap) (R : Room A 3) 
  (hl : s.heap.IsList t vs.toArray) (hz : vs.length ≤ 1000000)
  (h : ∀ h' tk a dx to, Stay s.heap h' → s.heap.get? a = none → h'.get? a = some (vobj dx c tc r sh ts t (c - vs.length) to) → h'.get? dx = some (dictOf [] 0) → Q (.ref a) { s with heap := h', toks := tk }) : wpAny (model prg w) A (call (.ref 303) [.int c tc, .int sh ts, .ref r, .ref t]) Q E s := by
  obtain ⟨hh, g, d, tk₀, os⟩ := s
  refine' mk_core (mc := .type "type") X ?a1 ?a2 ?a3 ?a4 ?a5 ?a6 ?a7 ?a8 (by intro z; cases z) ?a9 ?a10 ?a11 ?_
  (case a1 => k_dflt k_is)
  (case a2 => exact rfl)
  (case a3 => exact rfl)
  (case a4 => k_dflt k_is)
  (case a5 => k_dflt k_is)
  (case a6 => k_dflt k_is)
  (case a7 => k_dflt k_is)
  (case a8 => k_dflt k_is)
  (case a9 => k_dflt k_is)
  (case a10 => k_dflt k_is)
  (case a11 => k_dflt k_is)
  refine new_spec (s := ⟨hh, g, d, tk₀ + 1, os⟩) X T ⟨?_, ?_, R.handled⟩ hl hz (fun h' tk a dx to S hn ha hd => ⟨a, _, rfl, ha, rfl, X.keeps S, h _ _ _ _ _ S hn ha hd⟩)
  · rw [depth_under_make]; have := R.depth; omega
  · rw [under_tc_units]; have := R.units; omega
end
end
abbrev Lk := Addr → Obj → Prop
def At (h : Heap) : Lk := fun a o => h.get? a = some o
def Lg (h₀ : Heap) (news : List (Addr × Obj)) : Lk := fun a o => h₀.get? a = some o ∨ (a, o) ∈ news
def Le (P P' : Lk) : Prop := ∀ a o, P a o → P' a o
/-- a list of these items -/
def Lst (P : Lk) (l : Addr) (vs : List Value) : Prop := ∃ n, P l (listOf vs.toArray n)
theorem Lst.mono {P P' : Lk} (H : Le P P') {l : Addr} {vs : List Value} (h : Lst P l vs) : Lst P' l vs := let ⟨n, e⟩ := h; ⟨n, H _ _ e⟩
theorem Lst.isList {h : Heap} {l : Addr} {vs : List Value} (x : Lst (At h) l vs) : h.IsList l vs.toArray := let ⟨n, e⟩ := x; ⟨_, e, rfl, n, rfl⟩
def sz (n : Nat) : Nat := 32 ^ (n + 1)
theorem sz_pos (n : Nat) : 0 < sz n := Nat.pow_pos (by decide)
theorem sz_zero : sz 0 = 32 := rfl
theorem sz_succ (n : Nat) : sz (n + 1) = 32 * sz n := by unfold sz; rw [Nat.pow_succ, Nat.mul_comm]
def chunk (xs : List Int) (k i : Nat) : List Int := (xs.drop (i * k)).take k
/-- a tree of height n that holds these ints -/
def Tree (P : Lk) : Nat → Value → List Int → Prop
  | 0, v, xs => ∃ l vs, v = .ref l ∧ Lst P l vs ∧ IntsAre vs xs ∧ xs.length = 32
  | n + 1, v, xs => ∃ l vs, v = .ref l ∧ Lst P l vs ∧ (xs.length ≤ vs.length * sz n ∧ vs.length * sz n < xs.length + sz n) ∧ ∀ i u, vs[i]? = some u → Tree P n u (chunk xs (sz n) i)
theorem Tree.mono {P P' : Lk} (H : Le P P') : ∀ {n : Nat} {v : Value} {xs : List Int}, Tree P n v xs → Tree P' n v xs
  | 0, _, _, ⟨l, vs, e, a, b, c⟩ => ⟨l, vs, e, a.mono H, b, c⟩
  | _ + 1, _, _, ⟨l, vs, e, a, b, c⟩ => ⟨l, vs, e, a.mono H, b, fun i u hu => Tree.mono H (c i u hu)⟩
theorem Stay.le {h h' : Heap} (S : Stay h h') : Le (At h) (At h') := fun a o e => S a o e

/-- a vector's parts: the tree ys, the tail zs -/
structure Vec (P T : Lk) (a dx : Addr) (tc : Tok) (r : Addr) (n : Nat) (ts : Tok) (t : Addr) (off : Int) (to : Tok) (ys zs : List Int) (vs : List Value) : Prop where
  obj : P a (vobj dx ((ys.length : Int) + (zs.length : Int)) tc r (5 * (n : Int)) ts t off to)
  dict : P dx (dictOf [] 0)
  tree : Tree T n (.ref r) ys
  tail : Lst P t vs
  are : IntsAre vs zs
  full : zs.length ≤ 32
  level : n = 1 ∨ n = 2
  even : ys.length % 32 = 0
  room : ys.length ≤ sz n

def PVec (P : Lk) (a : Addr) (xs : List Int) : Prop := ∃ dx tc r n ts t to ys zs vs, Vec P P a dx tc r n ts t (ys.length : Int) to ys zs vs ∧ xs = ys ++ zs
theorem Vec.mono {P P' T T' : Lk} (H : Le P P') (H' : Le T T') {a dx : Addr} {tc : Tok} {r : Addr} {n : Nat} {ts : Tok} {t : Addr} {off : Int} {to : Tok} {ys zs : List Int} {vs : List Value} (V : Vec P T a dx tc r n ts t off to ys zs vs) : Vec P' T' a dx tc r n ts t off to ys zs vs :=
  ⟨H _ _ V.obj, H _ _ V.dict, V.tree.mono H', V.tail.mono H, V.are, V.full, V.level, V.even, V.room⟩
theorem PVec.mono {P P' : Lk} (H : Le P P') {a : Addr} {xs : List Int} (K : PVec P a xs) : PVec P' a xs := by
  obtain ⟨dx, tc, r, n, ts, t, to, ys, zs, vs, V, e⟩ := K
  exact ⟨dx, tc, r, n, ts, t, to, ys, zs, vs, V.mono H H, e⟩

/-- a vector whose object and tail are new and stand apart from its tree -/
def FVec (h₀ h : Heap) (a : Addr) (xs : List Int) : Prop := ∃ hs dx tc r n ts t to ys zs vs, Vec (At h) (At hs) a dx tc r n ts t (ys.length : Int) to ys zs vs ∧ xs = ys ++ zs ∧ Stay h₀ hs ∧ Stay hs h ∧ hs.get? t = none ∧ hs.get? a = none
theorem FVec.vec {h₀ h : Heap} {a : Addr} {xs : List Int} (H : FVec h₀ h a xs) : PVec (At h) a xs := by
  obtain ⟨_, dx, tc, r, n, ts, t, to, ys, zs, vs, V, e, _, s2, _, _⟩ := H
  exact ⟨dx, tc, r, n, ts, t, to, ys, zs, vs, V.mono (fun _ _ z => z) s2.le, e⟩

section
variable {w : World} {A : Around} {E : Value → Shared → Prop} {s : Shared} {Q : Value → Shared → Prop} {h₀ h h' : Heap} {L : Addr} {m : Str → Option Value} {news : List (Addr × Obj)}
theorem frStay (F : Fr h₀ L h m) (S : Stay h h') : Fr h₀ L h' m := ⟨F.ns.keeps S, fun b o e => S b o (F.keep b o e), F.above⟩
theorem newsStay (N : News h₀ L h news) (S : Stay h h') : News h₀ L h' news := fun p hp => ⟨S _ _ (N p hp).1, (N p hp).2⟩
theorem newsAdd (F : Fr h₀ L h m) (N : News h₀ L h' news) {a : Addr} {o : Obj} (hn : h.get? a = none) (ha : h'.get? a = some o) : News h₀ L h' ((a, o) :: news) := by
  intro p hp
  rcases List.mem_cons.mp hp with rfl | hp
  · refine ⟨ha, fun e => ?_, ?_⟩
    · obtain ⟨oL, _, _, hL, _⟩ := F.ns
      have e' : a = L := e
      rw [e', hL] at hn; cases hn
    · cases q : h₀.get? a with
      | none => rfl
      | some o' => rw [F.keep _ _ q] at hn; cases hn
  · exact N p hp
def AllNe (d : Nat) : List (Addr × Obj) → Prop
  | [] => True
  | p :: r => @Ne Nat p.1 d ∧ AllNe d r
theorem allNe {d : Addr} (hn : h.get? d = none) : ∀ {news : List (Addr × Obj)}, News h₀ L h news → AllNe d news
  | [], _ => trivial
  | p :: _, N => ⟨(fun e => by have := (N p (.head _)).1; rw [e, hn] at this; cases this), allNe hn fun q hq => N q (.tail _ hq)⟩
/-- a list that was not there before -/
def FLst (h h' : Heap) (l : Addr) (vs : List Value) : Prop := h.get? l = none ∧ Lst (At h') l vs
theorem after1 (F : Fr h₀ L h m) (N : News h₀ L h news) (S : Stay h h') {l : Addr} {vs : List Value} (H : FLst h h' l vs) : ∃ k, Fr h₀ L h' m ∧ News h₀ L h' ((l, listOf vs.toArray k) :: news) ∧ AllNe l news :=
  let ⟨hn, k, ha⟩ := H
  ⟨k, frStay F S, newsAdd F (newsStay N S) hn ha, allNe hn N⟩
theorem fLst {k : Nat} {l : Addr} {vs : List Value} (N : News h₀ L h news) (hm : (l, listOf vs.toArray k) ∈ news) : FLst h₀ h l vs := ⟨N.fresh hm, k, N.get hm⟩
/-- all that stands besides, as a ledger -/
theorem full (F : Fr h₀ L h m) (ex : List Addr) : ∃ nw, News h₀ L h nw ∧ OwnOff nw ex ∧ ∀ b o, h.get? b = some o → b ≠ L → b ∉ ex → Lg h₀ nw b o := by
  refine ⟨(List.range h.objs.size).filterMap fun b => if b = L ∨ b ∈ ex ∨ (h₀.get? b).isSome then none else (h.get? b).map fun o => (b, o), ?_, ?_, ?_⟩
  · intro p hp
    obtain ⟨b, _, hb⟩ := List.mem_filterMap.mp hp
    by_cases hc : b = L ∨ b ∈ ex ∨ (h₀.get? b).isSome
    · rw [if_pos hc] at hb; cases hb
    · rw [if_neg hc] at hb
      obtain ⟨o, ho, rfl⟩ := Option.map_eq_some_iff.mp hb
      refine ⟨ho, fun e => hc (.inl e), ?_⟩
      cases q : h₀.get? b with
      | none => rfl
      | some z => exact absurd (.inr (.inr (by rw [q]; rfl))) hc
  · intro p hp b' hb' e
    obtain ⟨b, _, hb⟩ := List.mem_filterMap.mp hp
    by_cases hc : b = L ∨ b ∈ ex ∨ (h₀.get? b).isSome
    · rw [if_pos hc] at hb; cases hb
    · rw [if_neg hc] at hb
      obtain ⟨o, ho, rfl⟩ := Option.map_eq_some_iff.mp hb
      have e' : b = b' := e
      exact hc (.inr (.inl (e' ▸ hb')))
  · intro b o ho hL hex
    cases q : h₀.get? b with
    | some z => exact .inl (by rw [← ho, F.keep _ _ q, q])
    | none =>
      refine .inr (List.mem_filterMap.mpr ⟨b, List.mem_range.mpr (Heap.lt_size ho), ?_⟩)
      rw [if_neg, ho]
      · rfl
      · rintro (e | e | e)
        · exact hL e
        · exact hex e
        · rw [q] at e; cases e
theorem newsApp {nw : List (Addr × Obj)} (N : News h₀ L h news) (N' : News h₀ L h nw) : News h₀ L h (news ++ nw) := fun p hp => (List.mem_append.mp hp).elim (N p) (N' p)
theorem lg_at (F : Fr h₀ L h m) (N : News h₀ L h news) : Le (Lg h₀ news) (At h) := fun a o e => e.elim (F.keep a o) fun e => N.get e
/-- lists alone -/
def LeL (P P' : Lk) : Prop := ∀ a its n, P a (listOf its n) → P' a (listOf its n)
theorem Tree.monoL {P P' : Lk} (H : LeL P P') : ∀ {n : Nat} {v : Value} {xs : List Int}, Tree P n v xs → Tree P' n v xs
  | 0, _, _, ⟨l, vs, e, ⟨k, a⟩, b, c⟩ => ⟨l, vs, e, ⟨k, H _ _ _ a⟩, b, c⟩
  | _ + 1, _, _, ⟨l, vs, e, ⟨k, a⟩, b, c⟩ => ⟨l, vs, e, ⟨k, H _ _ _ a⟩, b, fun i u hu => Tree.monoL H (c i u hu)⟩
theorem notL (F : Fr h₀ L h m) {b : Addr} {its : Array Value} {n : Nat} (e : h.get? b = some (listOf its n)) : b ≠ L := by
  rintro rfl
  obtain ⟨o, es, ep, ho, hd, _⟩ := F.ns
  rw [e] at ho
  cases ho
  cases hd
abbrev tupOf (vs : List Value) (n : Nat) : Obj := { cls := .type "tuple", data := .seq vs.toArray n }
theorem instBase (F : Fr h₀ L h m) {a dx C : Addr} {sl : Array (Option Value)} {es : List DictEntry} {n : Nat} (ho : h₀.get? a = some ⟨.ref C, some dx, .plain, sl⟩) (hd : h₀.get? dx = some (dictOf es n)) :
    InstAt h a ⟨.ref C, some dx, .plain, sl⟩ C (some (dictOf es n)) := ⟨F.keep _ _ ho, rfl, rfl, F.keep _ _ hd⟩
end
def Parts (P : Lk) (n : Nat) (vs : List Value) (xs : List Int) : Prop := (xs.length ≤ vs.length * sz n ∧ vs.length * sz n < xs.length + sz n) ∧ ∀ i u, vs[i]? = some u → Tree P n u (chunk xs (sz n) i)
theorem Parts.tree {P : Lk} {n : Nat} {vs : List Value} {xs : List Int} {l : Addr} (h : Parts P n vs xs) (hl : Lst P l vs) : Tree P (n + 1) (.ref l) xs := ⟨l, vs, rfl, hl, h.1, h.2⟩
theorem tree_parts {P : Lk} {n : Nat} {r : Addr} {xs : List Int} (h : Tree P (n + 1) (.ref r) xs) : ∃ vs, Lst P r vs ∧ Parts P n vs xs := by
  obtain ⟨l, vs, e, a, b, c⟩ := h
  cases e
  exact ⟨vs, a, b, c⟩
theorem Parts.mono {P P' : Lk} (H : Le P P') {n : Nat} {vs : List Value} {xs : List Int} (h : Parts P n vs xs) : Parts P' n vs xs := ⟨h.1, fun i u e => (h.2 i u e).mono H⟩
theorem chunk_length (xs : List Int) (k i : Nat) : (chunk xs k i).length = min k (xs.length - i * k) := by simp [chunk, List.length_take, List.length_drop]
theorem chunk_append_left {xs zs : List Int} {k i : Nat} (h : (i + 1) * k ≤ xs.length) : chunk (xs ++ zs) k i = chunk xs k i := by
  unfold chunk
  rw [Nat.add_mul, Nat.one_mul] at h
  rw [List.drop_append_of_le_length (by omega), List.take_append_of_le_length (by simp; omega)]
theorem chunk_append_last {xs zs : List Int} {k i : Nat} (h1 : i * k ≤ xs.length) (h2 : xs.length + zs.length ≤ (i + 1) * k) : chunk (xs ++ zs) k i = chunk xs k i ++ zs := by
  unfold chunk
  rw [Nat.add_mul, Nat.one_mul] at h2
  rw [List.drop_append_of_le_length h1, List.take_of_length_le (by simp; omega), List.take_of_length_le (by simp; omega)]
theorem Parts.push {P : Lk} {n : Nat} {vs : List Value} {xs zs : List Int} {u : Value} (h : Parts P n vs xs) (hm : xs.length % sz n = 0) (hu : Tree P n u zs) (h0 : 0 < zs.length) (h1 : zs.length ≤ sz n) : Parts P n (vs ++ [u]) (xs ++ zs) := by
  have e : xs.length = vs.length * sz n := by
    obtain ⟨⟨a, b⟩, _⟩ := h
    have hp := sz_pos n
    have q : xs.length = xs.length / sz n * sz n := by have := Nat.div_add_mod xs.length (sz n); rw [Nat.mul_comm]; omega
    rw [q] at a b ⊢
    have a' : xs.length / sz n ≤ vs.length := Nat.le_of_mul_le_mul_right a hp
    have b' : vs.length < xs.length / sz n + 1 := by
      apply Nat.lt_of_mul_lt_mul_right (a := sz n)
      rw [Nat.add_mul, Nat.one_mul]; exact b
    have : xs.length / sz n = vs.length := by omega
    rw [this]
  refine ⟨?_, fun i v hv => ?_⟩
  · simp only [List.length_append, List.length_cons, List.length_nil, Nat.zero_add, Nat.add_mul, Nat.one_mul]; omega
  · by_cases hi : i < vs.length
    · rw [List.getElem?_append_left hi] at hv
      rw [chunk_append_left (by rw [e]; exact Nat.mul_le_mul_right _ hi)]
      exact h.2 i v hv
    · have hi' : i = vs.length := by
        have := (List.getElem?_eq_some_iff.mp hv).1
        simp at this; omega
      subst hi'
      simp at hv
      subst hv
      rw [chunk_append_last (by omega) (by rw [Nat.add_mul, Nat.one_mul]; omega)]
      have : chunk xs (sz n) vs.length = [] := by unfold chunk; rw [List.drop_of_length_le (by omega)]; simp
      rw [this]; exact hu
theorem Parts.last {P : Lk} {n : Nat} {vs : List Value} {xs zs : List Int} {u : Value} {k : Nat} (h : Parts P n vs xs) (hk : k + 1 = vs.length) (hu : Tree P n u (chunk xs (sz n) k ++ zs)) (h1 : xs.length + zs.length ≤ vs.length * sz n) : Parts P n (vs.set k u) (xs ++ zs) := by
  obtain ⟨⟨a, b⟩, c⟩ := h
  have hkl : k * sz n ≤ xs.length := by rw [← hk, Nat.add_mul, Nat.one_mul] at b; omega
  refine ⟨?_, fun i v hv => ?_⟩
  · simp only [List.length_append, List.length_set]; omega
  · have hi : i < vs.length := by have := (List.getElem?_eq_some_iff.mp hv).1; simpa using this
    by_cases hik : i = k
    · subst hik
      rw [List.getElem?_set_self hi] at hv
      cases hv
      rw [chunk_append_last hkl (by rw [hk]; exact h1)]
      exact hu
    · rw [List.getElem?_set_ne (Ne.symm hik)] at hv
      rw [chunk_append_left]
      · exact c i v hv
      · have : i + 1 ≤ k := by omega
        exact Nat.le_trans (Nat.mul_le_mul_right _ this) hkl
theorem chunk_set {xs : List Int} {k i j : Nat} {x : Int} (hk : 0 < k) : chunk (xs.set j x) k i = if i = j / k then (chunk xs k i).set (j % k) x else chunk xs k i := by
  apply List.ext_getElem?
  intro q
  have hd := Nat.div_add_mod j k
  have hm := Nat.mod_lt j hk
  have e1 : (chunk (xs.set j x) k i)[q]? = if q < k then (xs.set j x)[i * k + q]? else none := by
    unfold chunk; rw [List.getElem?_take]; split <;> simp
  have e2 : (chunk xs k i)[q]? = if q < k then xs[i * k + q]? else none := by
    unfold chunk; rw [List.getElem?_take]; split <;> simp
  by_cases hi : i = j / k
  · rw [if_pos hi, e1]
    have hj : j = i * k + j % k := by rw [hi, Nat.mul_comm]; omega
    by_cases hq : q < k
    · rw [if_pos hq]
      by_cases hqe : q = j % k
      · subst hqe
        rw [← hj]
        by_cases hl : j < xs.length
        · rw [List.getElem?_set_self hl, List.getElem?_set_self]
          rw [chunk_length]; omega
        · rw [List.getElem?_eq_none (by simp; omega), List.getElem?_eq_none]
          rw [List.length_set, chunk_length]; omega
      · rw [List.getElem?_set_ne (by omega), List.getElem?_set_ne (Ne.symm hqe), e2, if_pos hq]
    · rw [if_neg hq, List.getElem?_eq_none]
      rw [List.length_set, chunk_length]; omega
  · rw [if_neg hi, e1, e2]
    by_cases hq : q < k
    · rw [if_pos hq, if_pos hq, List.getElem?_set_ne]
      intro hj
      apply hi
      rw [hj, Nat.mul_comm, Nat.mul_add_div hk, Nat.div_eq_of_lt hq, Nat.add_zero]
    · rw [if_neg hq, if_neg hq]
theorem Parts.set {P : Lk} {n : Nat} {vs : List Value} {xs : List Int} {u : Value} {j : Nat} {x : Int} (h : Parts P n vs xs) (hu : Tree P n u ((chunk xs (sz n) (j / sz n)).set (j % sz n) x)) : Parts P n (vs.set (j / sz n) u) (xs.set j x) := by
  refine ⟨by simpa using h.1, fun i v hv => ?_⟩
  have hi : i < vs.length := by have := (List.getElem?_eq_some_iff.mp hv).1; simpa using this
  rw [chunk_set (sz_pos n)]
  by_cases hik : i = j / sz n
  · rw [if_pos hik]
    subst hik
    rw [List.getElem?_set_self hi] at hv
    cases hv
    exact hu
  · rw [if_neg hik]
    rw [List.getElem?_set_ne (Ne.symm hik)] at hv
    exact h.2 i v hv
theorem Parts.one {P : Lk} {n : Nat} {u : Value} {zs : List Int} (hu : Tree P n u zs) (h0 : 0 < zs.length) (h1 : zs.length ≤ sz n) : Parts P n [u] zs := by
  refine ⟨by simp; omega, fun i v hv => ?_⟩
  match i, hv with
  | 0, hv =>
    cases hv
    have : chunk zs (sz n) 0 = zs := by unfold chunk; rw [Nat.zero_mul, List.drop_zero, List.take_of_length_le h1]
    rw [this]; exact hu
section
variable {w : World} {A : Around} {E : Value → Shared → Prop} {s : Shared} {Q : Value → Shared → Prop}
theorem item_base {h₀ : Heap} {L : Addr} {m : Str → Option Value} {value slice : PySem.Expr} {l : Addr} {ws : List Value} {k : Int} {u : Tok} {v : Value} (F : Fr h₀ L s.heap m) (hl : h₀.IsList l ws.toArray) (h0 : 0 ≤ k) (hhi : k < 2 ^ 63) (hx : ws[k.toNat]? = some v) (h : Q v s)
    (hs : subscripted slice false (.ref l) (.int k u) = operate [.ref l, .int k u] (getItem (.ref l) (.int k u)) := by with_unfolding_all rfl) :
    wpAny (model prg w) A (subscriptTail value slice (.ref l) (.int k u)) Q E s :=
  have hL := hl.at fun o q => F.keep _ _ q
  tail_any hL.typeIs slot_list_getitem.lookup (wpAny_getItem_list hL h0 hhi (by simpa using hx) h) hs
theorem set_any {h₀ : Heap} {L D : Addr} {m : Str → Option Value} {news news' : List (Addr × Obj)} {vs : List Value} {n : Nat} {k : Int} {t : Tok} {v : Value} {Q : Unit → Shared → Prop} (F : Fr h₀ L s.heap m) (N : News h₀ L s.heap news) (U : Upd D (listOf vs.toArray n) (listOf (vs.set k.toNat v).toArray n) news news') (h0 : 0 ≤ k) (h1 : k < vs.length) (hfit : k < 2 ^ 63)
    (h : ∀ h', Fr h₀ L h' m → News h₀ L h' news' → Q () { s with heap := h' }) :
    wpAny (model prg w) A (setItem (.ref D) (.int k t) v) Q E s := by
  obtain ⟨pre, post, rfl, rfl, a, b⟩ := U.split
  have z := N (D, listOf vs.toArray n) (List.mem_append.mpr (.inr (.head _)))
  have hs : vs.toArray.size = vs.length := List.size_toArray
  refine ki_setAt z.1 h0 hfit (by omega) (h _ (F.change (Heap.SameBut.update ..) z.2.1 z.2.2) (ki_turn _ N a b ?_ ?_))
  · show vs.toArray.setIfInBounds k.toNat v = (vs.set k.toNat v).toArray
    apply Array.toList_inj.mp
    simp
  · simp
theorem and31 {a : Int} {t u : Tok} (h : Q (.int (a % 32) s.toks) { s with toks := s.toks + 1 }) : wpAny (model prg w) A (binaryOp .BitAnd (.int a t) (.int 31 u)) Q E s := and_int (by rw [bitAnd_m5]; exact h)
theorem shr5 {a : Int} {t u : Tok} (h : Q (.int (a / 32) s.toks) { s with toks := s.toks + 1 }) : wpAny (model prg w) A (binaryOp .RShift (.int a t) (.int 5 u)) Q E s :=
  rshift_int (by decide) (by rw [show (2 : Int) ^ (Int.toNat 5) = 32 from rfl, Int.fdiv_eq_ediv_of_nonneg _ (by decide)]; exact h)
theorem shr10 {a : Int} {t u : Tok} (h : Q (.int (a / 1024) s.toks) { s with toks := s.toks + 1 }) : wpAny (model prg w) A (binaryOp .RShift (.int a t) (.int 10 u)) Q E s :=
  rshift_int (by decide) (by rw [show (2 : Int) ^ (Int.toNat 10) = 1024 from rfl, Int.fdiv_eq_ediv_of_nonneg _ (by decide)]; exact h)
end
theorem IntsAre.ofList {vs : List Value} {xs : List Int} (h : IntsAre vs xs) (x : Int) (t : Tok) : IntsAre (vs ++ [.int x t]) (xs ++ [x]) := h.append (.cons x t .nil)
section G1
local macro_rules | `(tactic| k_inst) => `(tactic| exact instBase (by k_asm) (by k_asm) (by k_asm))
local macro_rules | `(tactic| walk_at "call builtin:len") => `(tactic| (k_here; k_dflt (refine' len_base ?F ?l ?z ?_; (case F => k_asm); (case l => k_asm); (case z => k_asm); k_whole)))
local macro_rules | `(tactic| walk_at "setItem ref int") => `(tactic| (k_here; k_dflt (refine' set_any ?k1 ?k2 ?k3 ?k5 ?k6 ?k7 ?_; (case k1 => k_asm); (case k2 => k_asm); (case k3 => k_upd); (case k5 => omega); (case k6 => omega); (case k7 => omega); k_whole); intro h' F' N'; (try k_sweep)))
local macro_rules | `(tactic| walk_at "binaryOp BitAnd int int") => `(tactic| (k_here; refine and31 ?_; try dsimp only))
local macro_rules | `(tactic| walk_at "binaryOp RShift int int") => `(tactic| (k_here; first | refine shr5 ?_ | refine shr10 ?_; try dsimp only))
theorem fillF0 : (fun (_ : OpenLaw) (_ : Params → Frag) => True) PySem.Challenge.rw_nc0018_01 hd.heap_1 := by
  k_fill
  exact True.intro
section
variable {w : World} {A : Around} {E : Value → Shared → Prop} {s : Shared} {Q : Value → Shared → Prop} {mg mb : Str → Option Value} {p : Program} {loose : List Str}
theorem new_path0 {tk0 : Tok} {v : Value} {a dx : Addr} {sl : Array (Option Value)} (X : (hd.heap_1 w.params).In s.heap) (T : TopRead p loose mg mb s.heap) (R : Room A 1)
    (ho : s.heap.get? a = some ⟨.ref 303, some dx, .plain, sl⟩) (hdd : s.heap.get? dx = some (dictOf [] 0)) 
    (h : ∀ h' tk, Stay s.heap h' → Q v { s with heap := h', toks := tk }) : wpAny (model prg w) A (call (.ref 235) [.ref a, .int 0 tk0, v]) Q E s := by
  refine' enter (binds := [(Str.ofString "self", .ref a), (Str.ofString "level", .int 0 tk0), (Str.ofString "node", v)]) X ?r T.nolimit ?k6 ?k7 ?k9 ?kB (s.heap) (Stay.refl _) (Nat.le_refl _) ?_ ?c5 ?c2 ?c3 ?c4
  (case r => have := R.depth; omega)
  (case k6 => k_dflt k_is)
  (case k7 => k_dflt k_is)
  (case k9 => exact BindsTo.of_eq rfl)
  (case kB => exact locs rfl)
  (case c5 => decide)
  (case c2 => exact rfl)
  (case c3 => exact rfl)
  (case c4 => exact rfl)
  intro h₁ F S
  have N : News (s.heap) s.heap.objs.size h₁ [] := News.nil
  try dsimp only
  k_steps
  exact h _ _ (Fr.keep (by assumption))
theorem new_path1 {tk0 : Tok} {v : Value} {a dx : Addr} {sl : Array (Option Value)} (X : (hd.heap_1 w.params).In s.heap) (T : TopRead p loose mg mb s.heap) (R : Room A 2)
    (ho : s.heap.get? a = some ⟨.ref 303, some dx, .plain, sl⟩) (hdd : s.heap.get? dx = some (dictOf [] 0)) 
    (h : ∀ h' tk l, Stay s.heap h' → FLst s.heap h' l [v] → Q (.ref l) { s with heap := h', toks := tk }) : wpAny (model prg w) A (call (.ref 235) [.ref a, .int 5 tk0, v]) Q E s := by
  refine' enter (binds := [(Str.ofString "self", .ref a), (Str.ofString "level", .int 5 tk0), (Str.ofString "node", v)]) X ?r T.nolimit ?k6 ?k7 ?k9 ?kB (s.heap) (Stay.refl _) (Nat.le_refl _) ?_ ?c5 ?c2 ?c3 ?c4
  (case r => have := R.depth; omega)
  (case k6 => k_dflt k_is)
  (case k7 => k_dflt k_is)
  (case k9 => exact BindsTo.of_eq rfl)
  (case kB => exact locs rfl)
  (case c5 => decide)
  (case c2 => exact rfl)
  (case c3 => exact rfl)
  (case c4 => exact rfl)
  intro h₁ F S
  have N : News (s.heap) s.heap.objs.size h₁ [] := News.nil
  try dsimp only
  k_steps
  rename Fr _ _ _ _ => F1
  rename News _ _ _ _ => N1
  refine new_path0 (X.keeps F1.keep) (T.keeps F1.keep) (R.deeper _) (F1.keep _ _ ho) (F1.keep _ _ hdd) (fun h' tk' S' => ?_)
  have F2 := frStay F1 S'
  have N2 := newsStay N1 S'
  clear F1 N1
  k_steps
  rename Fr _ _ _ _ => F3
  rename News _ _ _ _ => N3
  exact h _ _ _ F3.keep (fLst N3 (.head _))
theorem push_tail1 {tk0 : Tok} {r t : Addr} {ws : List Value} {a dx : Addr} {sl : Array (Option Value)} (X : (hd.heap_1 w.params).In s.heap) (T : TopRead p loose mg mb s.heap) (R : Room A 1)
    (ho : s.heap.get? a = some ⟨.ref 303, some dx, .plain, sl⟩) (hdd : s.heap.get? dx = some (dictOf [] 0))  (hw : Lst (At s.heap) r ws) (hz : ws.length ≤ 1000000)
    (h : ∀ h' tk l, Stay s.heap h' → FLst s.heap h' l (ws ++ [.ref t]) → Q (.ref l) { s with heap := h', toks := tk }) : wpAny (model prg w) A (call (.ref 270) [.ref a, .int 5 tk0, .ref r, .ref t]) Q E s := by
  have hl := hw.isList
  refine' enter (binds := [(Str.ofString "self", .ref a), (Str.ofString "level", .int 5 tk0), (Str.ofString "parent", .ref r), (Str.ofString "tail_node", .ref t)]) X ?r T.nolimit ?k6 ?k7 ?k9 ?kB (s.heap) (Stay.refl _) (Nat.le_refl _) ?_ ?c5 ?c2 ?c3 ?c4
  (case r => have := R.depth; omega)
  (case k6 => k_dflt k_is)
  (case k7 => k_dflt k_is)
  (case k9 => exact BindsTo.of_eq rfl)
  (case kB => exact locs rfl)
  (case c5 => decide)
  (case c2 => exact rfl)
  (case c3 => exact rfl)
  (case c4 => exact rfl)
  intro h₁ F S
  have N : News (s.heap) s.heap.objs.size h₁ [] := News.nil
  try dsimp only
  k_steps
  rename Fr _ _ _ _ => F1
  rename News _ _ _ _ => N1
  rw [List.push_toArray] at N1
  exact h _ _ _ F1.keep (fLst N1 (.head _))
theorem push_tail2 {tk0 : Tok} {r0 t0 : Addr} {ws : List Value} {a dx : Addr} {c sh off : Int} {tc ts to : Tok} {r t : Addr} (X : (hd.heap_1 w.params).In s.heap) (T : TopRead p loose mg mb s.heap) (R : Room A 3)
    (ho : s.heap.get? a = some (vobj dx c tc r sh ts t off to)) (hdd : s.heap.get? dx = some (dictOf [] 0))  (hw : Lst (At s.heap) r0 ws) (hz : ws.length ≤ 1000000) (hc : 1 ≤ c) (hc2 : c ≤ 5000)
    (hch : ∀ (i : Nat) (u : Value), ws[i]? = some u → ∃ r1 us, u = .ref r1 ∧ Lst (At s.heap) r1 us ∧ us.length ≤ 1000000)
    (h : ∀ h' tk l, Stay s.heap h' → s.heap.get? l = none → (∃ l1 r1 us, ws[((c - 1) / 1024 % 32).toNat]? = some (.ref r1) ∧ Lst (At s.heap) r1 us ∧ Lst (At h') l1 (us ++ [.ref t0]) ∧ Lst (At h') l (ws.set ((c - 1) / 1024 % 32).toNat (.ref l1))) ∨ (ws.length ≤ ((c - 1) / 1024 % 32).toNat ∧ ∃ l1, Lst (At h') l1 [.ref t0] ∧ Lst (At h') l (ws ++ [.ref l1])) → Q (.ref l) { s with heap := h', toks := tk }) : wpAny (model prg w) A (call (.ref 270) [.ref a, .int 10 tk0, .ref r0, .ref t0]) Q E s := by
  have hl := hw.isList
  refine' enter (binds := [(Str.ofString "self", .ref a), (Str.ofString "level", .int 10 tk0), (Str.ofString "parent", .ref r0), (Str.ofString "tail_node", .ref t0)]) X ?r T.nolimit ?k6 ?k7 ?k9 ?kB (s.heap) (Stay.refl _) (Nat.le_refl _) ?_ ?c5 ?c2 ?c3 ?c4
  (case r => have := R.depth; omega)
  (case k6 => k_dflt k_is)
  (case k7 => k_dflt k_is)
  (case k9 => exact BindsTo.of_eq rfl)
  (case kB => exact locs rfl)
  (case c5 => decide)
  (case c2 => exact rfl)
  (case c3 => exact rfl)
  (case c4 => exact rfl)
  intro h₁ F S
  have N : News (s.heap) s.heap.objs.size h₁ [] := News.nil
  try dsimp only
  k_steps
  · rename (_ < (_ : Int)) => hlt
    obtain ⟨u, hu⟩ : ∃ u, ws[((c - 1) / 1024 % 32).toNat]? = some u := ⟨_, List.getElem?_eq_getElem (by omega)⟩
    obtain ⟨r1, us, rfl, hus, hzu⟩ := hch _ _ hu
    rename Fr _ _ _ _ => F1
    refine item_base F1 hl (by omega) (by omega) hu ?_
    k_steps
    rename Fr _ _ _ _ => F1
    rename News _ _ _ _ => N1
    refine push_tail1 (X.keeps F1.keep) (T.keeps F1.keep) ((R.deeper _).less (by omega)) (F1.keep _ _ ho) (F1.keep _ _ hdd) (hus.mono F1.keep) hzu (fun h' tk' l S' H' => ?_)
    obtain ⟨k2, F2, N2, ne2⟩ := after1 F1 N1 S' H'
    simp only [AllNe, and_true] at ne2
    clear F1 N1
    k_steps
    rename Fr _ _ _ _ => F3
    rename News _ _ _ _ => N3
    exact h _ _ _ F3.keep (N3.fresh (.tail _ (.head _))) (.inl ⟨l, r1, us, hu, hus, ⟨_, N3.get (.head _)⟩, ⟨_, N3.get (.tail _ (.head _))⟩⟩)
  · rename Fr _ _ _ _ => F1
    rename News _ _ _ _ => N1
    refine new_path1 (X.keeps F1.keep) (T.keeps F1.keep) ((R.deeper _).less (by omega)) (F1.keep _ _ ho) (F1.keep _ _ hdd) (fun h' tk' l S' H' => ?_)
    obtain ⟨k2, F2, N2, ne2⟩ := after1 F1 N1 S' H'
    simp only [AllNe, and_true] at ne2
    clear F1 N1
    k_steps
    rename Fr _ _ _ _ => F3
    rename News _ _ _ _ => N3
    rw [List.push_toArray] at N3
    exact h _ _ _ F3.keep (N3.fresh (.tail _ (.head _))) (.inr ⟨by omega, l, ⟨_, N3.get (.head _)⟩, ⟨_, N3.get (.tail _ (.head _))⟩⟩)
end
section
variable {h₀ h h' : Heap} {L : Addr} {m : Str → Option Value} {news nw : List (Addr × Obj)}
theorem Lst.det {l : Addr} {vs ws : List Value} (a : Lst (At h) l vs) (b : Lst (At h) l ws) : vs = ws := by
  obtain ⟨n, a⟩ := a
  obtain ⟨k, b⟩ := b
  unfold At at a b
  rw [a] at b
  injection b with b
  injection b with _ _ b _
  injection b with b _
  simpa using b
/-- the whole ledger behind a call, with the trees that stand -/
theorem fullT (F : Fr h₀ L h m) : ∃ nw, News h₀ L h nw ∧ ∀ n v xs, Tree (At h) n v xs → Tree (Lg h₀ nw) n v xs := by
  obtain ⟨nw, N, _, U⟩ := full F []
  exact ⟨nw, N, fun n v xs t => t.monoL fun a its k e => U a _ e (notL F e) (by simp)⟩
theorem subLg (F : Fr h₀ L h m) (N : News h₀ L h news) (hs : ∀ p ∈ nw, p ∈ news) : Le (Lg h₀ nw) (At h) := fun a o e => e.elim (F.keep a o) fun e => N.get (hs _ e)
/-- a vector whose object and tail are new and stand apart from its tree -/
def NVec (h₀ h : Heap) (a : Addr) (xs : List Int) : Prop := ∃ (T : Lk) (dx : Addr) (tc : Tok) (r : Addr) (n : Nat) (ts : Tok) (t : Addr) (to : Tok) (ys zs : List Int) (vs : List Value), Vec (At h) T a dx tc r n ts t (ys.length : Int) to ys zs vs ∧ xs = ys ++ zs ∧ Le T (At h) ∧ (∀ o, ¬ T t o) ∧ (∀ o, ¬ T a o) ∧ h₀.get? t = none ∧ h₀.get? a = none
theorem NVec.vec {a : Addr} {xs : List Int} (H : NVec h₀ h a xs) : PVec (At h) a xs := by
  unfold NVec at H
  obtain ⟨T, dx, tc, r, n, ts, t, to, ys, zs, vs, V, e, l, z⟩ := H
  have V' : Vec (At h) (At h) a dx tc r n ts t (ys.length : Int) to ys zs vs := ⟨V.obj, V.dict, V.tree.mono l, V.tail, V.are, V.full, V.level, V.even, V.room⟩
  exact ⟨dx, tc, r, n, ts, t, to, ys, zs, vs, V', e⟩
theorem vobj_eq {dx : Addr} {c c' : Int} {tc : Tok} {r : Addr} {sh sh' : Int} {ts : Tok} {t : Addr} {off off' : Int} {to : Tok} (h1 : c = c') (h3 : sh = sh') (h2 : off = off') : some (vobj dx c tc r sh ts t off to) = some (vobj dx c' tc r sh' ts t off' to) := by rw [h1, h2, h3]
theorem allLt_mem {d : Nat} {l : List (Addr × Obj)} (h : AllLt d l) : ∀ p ∈ l, @LT.lt Nat _ p.1 d := by
  induction l with
  | nil => intro p hp; cases hp
  | cons q r ih =>
    intro p hp
    obtain ⟨h1, h2⟩ := h
    rcases List.mem_cons.mp hp with rfl | hp
    · exact h1
    · exact ih h2 p hp
end
theorem fillF2 : (fun (_ : OpenLaw) (_ : Params → Frag) => True) PySem.Challenge.rw_nc0018_01 hd.heap_1 := by
  k_fill
  exact True.intro
section
variable {w : World} {A : Around} {E : Value → Shared → Prop} {s : Shared} {Q : Value → Shared → Prop} {mg mb : Str → Option Value} {p : Program} {loose : List Str}
theorem create1 {ys zs : List Int} {vs : List Value} {a dx : Addr} {c off : Int} {tc ts to : Tok} {r t : Addr} (X : (hd.heap_1 w.params).In s.heap) (T : TopRead p loose mg mb s.heap) (R : Room A 5)
    (ho : s.heap.get? a = some (vobj dx c tc r 5 ts t off to)) (hdd : s.heap.get? dx = some (dictOf [] 0))  (ht : Tree (At s.heap) 1 (.ref r) ys) (hv : Lst (At s.heap) t vs) (hi : IntsAre vs zs) (h32 : zs.length = 32) (hev : ys.length % 32 = 0) (hrm : ys.length ≤ 1024) (hc : c = ys.length + 32)
    (h : ∀ h' tk l r' (n' : Nat) k ts', Stay s.heap h' → s.heap.get? l = none → h'.get? l = some (tupOf [.ref r', .int (5 * (n' : Int)) ts'] k) → Tree (At h') n' (.ref r') (ys ++ zs) → (n' = 1 ∨ n' = 2) → (ys ++ zs).length ≤ sz n' → Q (.ref l) { s with heap := h', toks := tk }) : wpAny (model prg w) A (call (.ref 221) [.ref a]) Q E s := by
  obtain ⟨ws, hw, hp⟩ := tree_parts ht
  have hz : ws.length ≤ 1000000 := by have := hp.1; rw [sz_zero] at this; omega
  have p5 : (1 * 2 ^ Int.toNat 5 : Int) = 32 := rfl
  have leaf : Tree (At s.heap) 0 (.ref t) zs := ⟨t, vs, rfl, hv, hi, h32⟩
  refine' enter (binds := [(Str.ofString "self", .ref a)]) X ?r T.nolimit ?k6 ?k7 ?k9 ?kB (s.heap) (Stay.refl _) (Nat.le_refl _) ?_ ?c5 ?c2 ?c3 ?c4
  (case r => have := R.depth; omega)
  (case k6 => k_dflt k_is)
  (case k7 => k_dflt k_is)
  (case k9 => exact BindsTo.of_eq rfl)
  (case kB => exact locs rfl)
  (case c5 => decide)
  (case c2 => exact rfl)
  (case c3 => exact rfl)
  (case c4 => exact rfl)
  intro h₁ F S
  have N : News (s.heap) s.heap.objs.size h₁ [] := News.nil
  try dsimp only
  k_steps
  · rename (_ < (_ : Int)) => hlt
    rw [p5] at hlt
    rename Fr _ _ _ _ => F1
    rename News _ _ _ _ => N1
    refine new_path1 (X.keeps F1.keep) (T.keeps F1.keep) ((R.deeper _).less (by omega)) (F1.keep _ _ ho) (F1.keep _ _ hdd) (fun h' tk' l S' H' => ?_)
    obtain ⟨k2, F2, N2, ne2⟩ := after1 F1 N1 S' H'
    simp only [AllNe] at ne2
    clear F1 N1
    k_steps
    rename Fr _ _ _ _ => F3
    rename News _ _ _ _ => N3
    have hy : ys.length = 1024 := by omega
    refine h _ _ _ _ 2 _ _ F3.keep (N3.fresh (.head _)) (N3.get (.head _)) (Parts.tree (vs := [.ref r, .ref l]) ?_ ⟨_, N3.get (.tail _ (.head _))⟩) (.inr rfl) (by simp only [List.length_append, h32, hy]; decide)
    refine (Parts.one (ht.mono F3.keep) (by omega) (by rw [hy]; decide)).push (u := .ref l) (by rw [hy]; decide) ((Parts.one (leaf.mono F3.keep) (by omega) (by rw [h32]; decide)).tree ⟨_, N3.get (.tail _ (.tail _ (.head _)))⟩) (by omega) (by rw [h32]; decide)
  · rename (¬ (_ : Int) < _) => hlt
    rw [p5] at hlt
    rename Fr _ _ _ _ => F1
    rename News _ _ _ _ => N1
    refine push_tail1 (X.keeps F1.keep) (T.keeps F1.keep) ((R.deeper _).less (by omega)) (F1.keep _ _ ho) (F1.keep _ _ hdd) (hw.mono F1.keep) hz (fun h' tk' l S' H' => ?_)
    obtain ⟨k2, F2, N2, ne2⟩ := after1 F1 N1 S' H'
    simp only [AllNe] at ne2
    clear F1 N1
    k_steps
    rename Fr _ _ _ _ => F3
    rename News _ _ _ _ => N3
    refine h _ _ _ _ 1 _ _ F3.keep (N3.fresh (.head _)) (N3.get (.head _)) (((hp.mono F3.keep).push (by rw [sz_zero]; exact hev) (leaf.mono F3.keep) (by omega) (by rw [h32]; decide)).tree ⟨_, N3.get (.tail _ (.head _))⟩) (.inl rfl) (by simp only [List.length_append, h32]; show _ ≤ 1024; omega)
theorem create2 {ys zs : List Int} {vs : List Value} {a dx : Addr} {c off : Int} {tc ts to : Tok} {r t : Addr} (X : (hd.heap_1 w.params).In s.heap) (T : TopRead p loose mg mb s.heap) (R : Room A 6)
    (ho : s.heap.get? a = some (vobj dx c tc r 10 ts t off to)) (hdd : s.heap.get? dx = some (dictOf [] 0))  (ht : Tree (At s.heap) 2 (.ref r) ys) (hv : Lst (At s.heap) t vs) (hi : IntsAre vs zs) (h32 : zs.length = 32) (hev : ys.length % 32 = 0) (hrm : ys.length ≤ 4000) (hc : c = ys.length + 32)
    (h : ∀ h' tk l r' (n' : Nat) k ts', Stay s.heap h' → s.heap.get? l = none → h'.get? l = some (tupOf [.ref r', .int (5 * (n' : Int)) ts'] k) → Tree (At h') n' (.ref r') (ys ++ zs) → (n' = 1 ∨ n' = 2) → (ys ++ zs).length ≤ sz n' → Q (.ref l) { s with heap := h', toks := tk }) : wpAny (model prg w) A (call (.ref 221) [.ref a]) Q E s := by
  obtain ⟨ws, hw, hp⟩ := tree_parts ht
  have s1 : sz 1 = 1024 := rfl
  have hz : ws.length ≤ 1000000 := by have := hp.1; rw [s1] at this; omega
  have p10 : (1 * 2 ^ Int.toNat 10 : Int) = 1024 := rfl
  have leaf : Tree (At s.heap) 0 (.ref t) zs := ⟨t, vs, rfl, hv, hi, h32⟩
  have hch : ∀ (i : Nat) (u : Value), ws[i]? = some u → ∃ r1 us, u = .ref r1 ∧ Lst (At s.heap) r1 us ∧ us.length ≤ 1000000 := by
    intro i u hu
    obtain ⟨r1, us, e, hl, hs, _⟩ := hp.2 i u hu
    refine ⟨r1, us, e, hl, ?_⟩
    rw [chunk_length, sz_zero, s1] at hs
    omega
  refine' enter (binds := [(Str.ofString "self", .ref a)]) X ?r T.nolimit ?k6 ?k7 ?k9 ?kB (s.heap) (Stay.refl _) (Nat.le_refl _) ?_ ?c5 ?c2 ?c3 ?c4
  (case r => have := R.depth; omega)
  (case k6 => k_dflt k_is)
  (case k7 => k_dflt k_is)
  (case k9 => exact BindsTo.of_eq rfl)
  (case kB => exact locs rfl)
  (case c5 => decide)
  (case c2 => exact rfl)
  (case c3 => exact rfl)
  (case c4 => exact rfl)
  intro h₁ F S
  have N : News (s.heap) s.heap.objs.size h₁ [] := News.nil
  try dsimp only
  k_steps
  rename Fr _ _ _ _ => F1
  rename News _ _ _ _ => N1
  refine push_tail2 (X.keeps F1.keep) (T.keeps F1.keep) ((R.deeper _).less (by omega)) (F1.keep _ _ ho) (F1.keep _ _ hdd) (hw.mono F1.keep) hz (by omega) (by omega) (fun i u hu => let ⟨r1, us, e, q, z⟩ := hch i u hu; ⟨r1, us, e, q.mono F1.keep, z⟩) (fun h' tk' l S' hn' H' => ?_)
  have F2 := frStay F1 S'
  have tr : Tree (At h') 2 (.ref l) (ys ++ zs) := by
    have hb := hp.1
    rw [s1] at hb
    rcases H' with ⟨l1, r1, us, hk, hu, hl1, hl⟩ | ⟨hk, l1, hl1, hl⟩
    · have hk' := (List.getElem?_eq_some_iff.mp hk).1
      refine ((hp.mono F2.keep).last (k := ((c - 1) / 1024 % 32).toNat) (u := .ref l1) (by omega) ?_ (by rw [h32, s1]; omega)).tree hl
      obtain ⟨us', hus', hpu⟩ := tree_parts (hp.2 _ _ hk)
      have := Lst.det (hu) (hus'.mono F1.keep)
      subst this
      refine ((hpu.mono F2.keep).push ?_ (leaf.mono F2.keep) (by omega) (by rw [h32]; decide)).tree hl1
      rw [chunk_length, sz_zero, s1]
      omega
    · refine ((hp.mono F2.keep).push (by rw [s1]; omega) ((Parts.one (leaf.mono F2.keep) (by omega) (by rw [h32]; decide)).tree hl1) (by omega) (by rw [h32]; decide)).tree hl
  obtain ⟨nw, N2, UT⟩ := fullT F2
  have tr' := UT _ _ _ tr
  clear F1 N1
  k_steps
  rename Fr _ _ _ _ => F3
  rename News _ _ _ _ => N3
  exact h _ _ _ _ 2 _ _ F3.keep (N3.fresh (.head _)) (N3.get (.head _)) (tr'.mono (subLg F3 N3 fun p hp => .tail _ hp)) (.inr rfl) (by simp only [List.length_append, h32]; show _ ≤ 32768; omega)
end
theorem fillF1 : (fun (_ : OpenLaw) (_ : Params → Frag) => True) PySem.Challenge.rw_nc0018_01 hd.heap_1 := by
  k_fill
  exact True.intro
section
variable {w : World} {A : Around} {E : Value → Shared → Prop} {s : Shared} {Q : Value → Shared → Prop} {mg mb : Str → Option Value} {p : Program} {loose : List Str}
theorem create_spec {a dx : Addr} {tc : Tok} {r : Addr} {n : Nat} {ts : Tok} {t : Addr} {off : Int} {to : Tok} {ys zs : List Int} {vs : List Value} {T' : Lk} (X : (hd.heap_1 w.params).In s.heap) (T : TopRead p loose mg mb s.heap) (R : Room A 6)
    (V : Vec (At s.heap) T' a dx tc r n ts t off to ys zs vs) (le : Le T' (At s.heap)) (h32 : zs.length = 32) (hbig : ys.length ≤ 4000)
    (h : ∀ h' tk l r' (n' : Nat) k ts', Stay s.heap h' → s.heap.get? l = none → h'.get? l = some (tupOf [.ref r', .int (5 * (n' : Int)) ts'] k) → Tree (At h') n' (.ref r') (ys ++ zs) → (n' = 1 ∨ n' = 2) → (ys ++ zs).length ≤ sz n' → Q (.ref l) { s with heap := h', toks := tk }) : wpAny (model prg w) A (call (.ref 221) [.ref a]) Q E s := by
  have hc : (ys.length : Int) + (zs.length : Int) = ys.length + 32 := by rw [h32]; rfl
  rcases V.level with e | e
  · subst e
    exact create1 X T (R.less (by omega)) V.obj V.dict (V.tree.mono le) V.tail V.are h32 V.even V.room hc h
  · subst e
    exact create2 X T R V.obj V.dict (V.tree.mono le) V.tail V.are h32 V.even hbig hc h
theorem append_spec {a : Addr} {x : Int} {tx : Tok} {xs : List Int} (X : (hd.heap_1 w.params).In s.heap) (T : TopRead p loose mg mb s.heap) (R : Room A 8) (V : PVec (At s.heap) a xs) (hbig : xs.length ≤ 2000)
    (h : ∀ h' tk a', Stay s.heap h' → NVec s.heap h' a' (xs ++ [x]) → Q (.ref a') { s with heap := h', toks := tk }) : wpAny (model prg w) A (call (.ref 228) [.ref a, .int x tx]) Q E s := by
  obtain ⟨dx, tc, r, n, ts, t, to, ys, zs, vs, V, rfl⟩ := V
  have ho : s.heap.get? a = some (vobj dx ((ys.length : Int) + (zs.length : Int)) tc r (5 * (n : Int)) ts t ys.length to) := V.obj
  have hdd : s.heap.get? dx = some (dictOf [] 0) := V.dict
  have hl : s.heap.IsList t vs.toArray := V.tail.isList
  have hvz := V.are.length
  have hfull := V.full
  have hev := V.even
  have hrm := V.room
  have hz : vs.length ≤ 1000000 := by omega
  rw [List.length_append] at hbig
  obtain ⟨hA, dp, fr, gd, un⟩ := A
  obtain rfl : hA = none := R.handled
  refine' enter (binds := [(Str.ofString "self", .ref a), (Str.ofString "val", .int x tx)]) X ?r T.nolimit ?k6 ?k7 ?k9 ?kB (s.heap) (Stay.refl _) (Nat.le_refl _) ?_ ?c5 ?c2 ?c3 ?c4
  (case r => have := R.depth; omega)
  (case k6 => k_dflt k_is)
  (case k7 => k_dflt k_is)
  (case k9 => exact BindsTo.of_eq rfl)
  (case kB => exact locs rfl)
  (case c5 => decide)
  (case c2 => exact rfl)
  (case c3 => exact rfl)
  (case c4 => exact rfl)
  intro h₁ F S
  have N : News (s.heap) s.heap.objs.size h₁ [] := News.nil
  try dsimp only
  k_steps
  · rename Fr _ _ _ _ => F1
    rename News _ _ _ _ => N1
    rw [List.push_toArray] at N1
    refine mk_spec (vs := vs ++ [.int x tx]) (X.keeps F1.keep) (T.keeps F1.keep) ((R.deeper _).less (by omega)) (Lst.isList ⟨_, N1.get (.head _)⟩) (by simp; omega) (fun h' tk' a' dx' to' S' hn ha hd' => ?_)
    have ha2 := ha.trans (vobj_eq (c' := (ys.length : Int) + ((zs ++ [x]).length : Int)) (off' := (ys.length : Int)) (by simp; omega) rfl (by simp; omega))
    refine h _ _ _ (Stay.trans F1.keep S') ⟨At s.heap, dx', _, r, n, ts, _, to', ys, zs ++ [x], vs ++ [.int x tx], ⟨ha2, hd', V.tree, ⟨_, S' _ _ (N1.get (.head _))⟩, IntsAre.ofList V.are x tx, ?_, V.level, hev, hrm⟩, by simp, fun b o e => S' _ _ (F1.keep b o e), ?_, ?_, N1.fresh (.head _), ?_⟩
    · simp; omega
    · intro o e; have := N1.fresh (.head _); unfold At at e; rw [this] at e; cases e
    · intro o e; unfold At at e; have := F1.keep _ _ e; rw [hn] at this; cases this
    · cases q : s.heap.get? a' with
      | none => rfl
      | some z => have := F1.keep _ _ q; rw [hn] at this; cases this
  · have h32 : zs.length = 32 := by omega
    rename Fr _ _ _ _ => F1
    rename News _ _ _ _ => N1
    dsimp only [List.append_nil]
    refine create_spec (X.keeps F1.keep) (T.keeps F1.keep) ((R.deeper _).less (by omega)) (V.mono F1.keep F1.keep) (fun _ _ e => e) h32 (by omega) (fun h' tk' l r' n' k ts' S' hn ha tr hlv hrm' => ?_)
    have F2 := frStay F1 S'
    obtain ⟨nw, Nw, UT⟩ := fullT F2
    have tr' := UT _ _ _ tr
    have N2 := newsAdd F1 Nw hn ha
    clear F1 N1 Nw UT
    k_steps
    rename Fr _ _ _ _ => F3
    rename News _ _ _ _ => N3

    rename (_ ∧ AllLt _ _) => l3
    have le3 := subLg F3 N3 (nw := nw) (fun p hp => .tail _ (.tail _ hp))
    refine mk_spec (vs := [.int x tx]) (X.keeps F3.keep) (T.keeps F3.keep) ((R.deeper _).less (by omega)) (Lst.isList ⟨_, N3.get (.head _)⟩) (by simp) (fun h' tk' a' dx' to' S' hn ha hd' => ?_)
    have ha2 := ha.trans (vobj_eq (c' := ((ys ++ zs).length : Int) + ([x].length : Int)) (off' := ((ys ++ zs).length : Int)) (by simp) rfl (by simp))
    refine h _ _ _ (Stay.trans F3.keep S') ⟨Lg s.heap nw, dx', _, r', n', _, _, to', ys ++ zs, [x], [.int x tx], ⟨ha2, hd', tr', ⟨_, S' _ _ (N3.get (.head _))⟩, .cons x tx .nil, by simp, hlv, by simp; omega, hrm'⟩, rfl, fun b o e => S' _ _ (le3 b o e), ?_, ?_, N3.fresh (.head _), ?_⟩
    · rintro o (e | e)
      · have := N3.fresh (.head _); rw [this] at e; cases e
      · exact absurd (allLt_mem l3.2 _ e) (Nat.lt_irrefl _)
    · intro o e; have := le3 _ _ e; unfold At at this; rw [hn] at this; cases this
    · cases q : s.heap.get? a' with
      | none => rfl
      | some z => have := F3.keep _ _ q; rw [hn] at this; cases this
end
section
open PySem PySem.W PySem.Calls PyProof.Rows PySem.Spec
/-- a goal kept for the hand -/
def Hold (P : Prop) : Prop := P
theorem Hold.mk {P : Prop} (h : Hold P) : P := h
section
variable {prog : Program} {w : World} {A : Around} {E : Value → Shared → Prop} {s : Shared} {env : Env} {h₀ : Heap} {x : Str} {body : List Stmt} {Q : Flow → Shared → Prop}
/-- what a turn leaves -/
def TurnEnd (h₀ : Heap) (L : Addr) (I : Addr) (o : Obj) (J : (Str → Option Value) → List (Addr × Obj) → Prop) (s₁ : Shared) (Q : Flow → Shared → Prop) (f : Flow) (s₂ : Shared) : Prop :=
  match f with
  | .ret v => Q (.ret v) s₂
  | .brk => Q .next s₂
  | _ => ∃ h' tk m' nx, s₂ = { s₁ with heap := h', toks := tk } ∧ Fr h₀ L h' m' ∧ News h₀ L h' ((I, o) :: nx) ∧ (∀ p ∈ nx, p.1 ≠ I) ∧ J m' nx
theorem TurnEnd.intro {L I : Addr} {o : Obj} {J : (Str → Option Value) → List (Addr × Obj) → Prop} {s₁ : Shared} {h' : Heap} {tk : Nat} {m' : Str → Option Value} {nx : List (Addr × Obj)} (F : Fr h₀ L h' m') (N : News h₀ L h' ((I, o) :: nx)) (hn : ∀ p ∈ nx, p.1 ≠ I) (hJ : J m' nx) :
    TurnEnd h₀ L I o J s₁ Q .next { s₁ with heap := h', toks := tk } := ⟨h', tk, m', nx, rfl, F, N, hn, hJ⟩
theorem iter_led {l : Addr} {vs : List Value} {k : Nat} {m₀ : Str → Option Value} {news : List (Addr × Obj)} (J : Nat → (Str → Option Value) → List (Addr × Obj) → Prop)
    (hh : A.handled = none) (hJl : ∀ i m nx, J i m nx → Lg h₀ nx l (listOf vs.toArray k)) (F : Fr h₀ env.locals s.heap m₀) (N : News h₀ env.locals s.heap news) (hj : J 0 m₀ news)
    (turn : ∀ i v m₁ news₁ h tk I o, vs[i]? = some v → J i m₁ news₁ → AllNe I news₁ → Fr h₀ env.locals h (fun y => if y = x then some v else m₁ y) → News h₀ env.locals h ((I, o) :: news₁) →
      wpAny (model prog w) A (execs body env) (TurnEnd h₀ env.locals I o (J (i + 1)) { s with heap := h, toks := tk } Q) E { s with heap := h, toks := tk })
    (done : ∀ m₁ news₁ h tk, J vs.length m₁ news₁ → Fr h₀ env.locals h m₁ → News h₀ env.locals h news₁ → Q .next { s with heap := h, toks := tk }) :
    wpAny (model prog w) A (pyIter (.ref l)) (fun it s₂ => LoopAtV prog w A h₀ env x body Q E it s₂) E s := by
  have hol : s.heap.get? l = some (listOf vs.toArray k) := lg_at F N _ _ (hJl 0 _ _ hj)
  have hls : s.heap.IsList l vs.toArray := ⟨_, hol, rfl, k, rfl⟩
  have hlt : l < s.heap.objs.size := Heap.lt_size hol
  have hne : l ≠ s.heap.objs.size := Nat.ne_of_lt hlt
  refine wpAny_pyIter_list hls ?_
  have W := Walks.list (prog := prog) (w := w) hh s.heap.objs.size l hne vs.toArray
  have hlen : vs.toArray.size = vs.length := by simp
  rw [hlen] at W
  refine ⟨_, _, _, vs.length, _, _, m₀, news, J, rfl, W, ?_, ?_, ?_, ⟨⟨_, Heap.get?_push_size _ rfl, rfl, rfl⟩, hls.at fun o e => Heap.get?_push_of_some _ e⟩, F.push _, (fun p hp => ⟨Heap.get?_push_of_some _ (N p hp).1, (N p hp).2⟩), hj, ?_, ?_⟩
  · intro hm
    rcases List.mem_cons.mp hm with e | hm
    · exact absurd F.ns.lt (e ▸ Nat.lt_irrefl _)
    · exact notL F hol (List.mem_singleton.mp hm).symm
  · intro b hb
    rw [List.mem_singleton.mp hb]
    exact next_is_new F
  · intro p hp hI
    exact absurd (Heap.lt_size (N p hp).1) ((List.mem_singleton.mp hI) ▸ Nat.lt_irrefl _)
  · rintro i v m₁ news₁ s₁ own ⟨hh', tk', rfl⟩ hin hP hJ hoff hown hown2 hown3 hst F₁ N₁
    obtain ⟨⟨oI, hoI, _⟩, _⟩ := id hst
    have hI0 : h₀.get? s.heap.objs.size = none := next_is_new F
    have hmem : (s.heap.objs.size, oI) ∈ own := hown3 _ (.head _) hI0 _ hoI
    have hv : vs[i]? = some v := by simpa using hP
    have N₂ : News h₀ env.locals hh' ((s.heap.objs.size, oI) :: news₁) := fun p hp => (List.mem_cons.mp hp).elim (fun e => e ▸ N₁ _ (List.mem_append_left _ hmem)) fun h => N₁ p (List.mem_append_right _ h)
    have hne' : AllNe s.heap.objs.size news₁ := by
      have : ∀ p ∈ news₁, p.1 ≠ s.heap.objs.size := fun p hp e => hoff p hp (List.mem_singleton.mpr e)
      clear hJ hoff N₁ N₂
      induction news₁ with
      | nil => trivial
      | cons q r ih => exact ⟨this q (.head _), ih fun p hp => this p (.tail _ hp)⟩
    refine wpAny_mono (turn i v m₁ news₁ hh' tk' s.heap.objs.size oI hv hJ hne' F₁ N₂) (fun f s₂ p => ?_) fun _ _ e => e
    have fin : (∃ h' tk m' nx, s₂ = { s with heap := h', toks := tk } ∧ Fr h₀ env.locals h' m' ∧ News h₀ env.locals h' ((s.heap.objs.size, oI) :: nx) ∧ (∀ p ∈ nx, p.1 ≠ s.heap.objs.size) ∧ J (i + 1) m' nx) → LoopStepU h₀ env.locals [s.heap.objs.size] own (J (i + 1)) { s with heap := hh', toks := tk' } .next s₂ := by
      rintro ⟨h', tk, m', nx, e, F', N', hn, hm⟩
      refine ⟨rfl, h', tk, m', nx, e, F', fun p hp => ?_, fun p hp hq => hn p hp (List.mem_singleton.mp hq), hm⟩
      rcases List.mem_append.mp hp with hp | hp
      · have hp0 := N₁ p (List.mem_append_left _ hp)
        refine ⟨?_, hp0.2⟩
        rcases List.mem_cons.mp (hown p hp) with e1 | e1
        · have : p.2 = oI := by have := hp0.1; rw [e1] at this; rw [show hh'.get? s.heap.objs.size = some oI from hoI] at this; exact (Option.some.inj this).symm
          rw [e1, this]; exact (N' _ (.head _)).1
        · have e1 := List.mem_singleton.mp e1
          have hl1 : hh'.get? l = some (listOf vs.toArray k) := lg_at F₁ (fun q hq => N₁ q (List.mem_append_right _ hq)) _ _ (hJl i _ _ hJ)
          have : p.2 = listOf vs.toArray k := by have := hp0.1; rw [e1, hl1] at this; exact (Option.some.inj this).symm
          rw [e1, this]
          exact lg_at F' (fun q hq => N' q (.tail _ hq)) _ _ (hJl _ _ _ hm)
      · exact N' p (.tail _ hp)
    cases f with
    | ret v => exact .ret p
    | brk => exact .brk p
    | next => exact .next (fin p)
    | cont => exact .cont (fin p)
  · rintro h' tk m' news' F' N' _ hJ
    exact done m' news' h' tk hJ F' N'
theorem iteSame {α : Type} (x : Str) (u v : α) (f : Str → α) : (fun y => if y = x then u else if y = x then v else f y) = fun y => if y = x then u else f y := by
  funext y
  by_cases h : y = x
  · simp [h]
  · simp [h]
theorem iter_ledM {l : Addr} {vs : List Value} {k : Nat} {m₀ : Str → Option Value} {news : List (Addr × Obj)} (J : Nat → List (Addr × Obj) → Prop)
    (hh : A.handled = none) (hJl : ∀ i nx, J i nx → Lg h₀ nx l (listOf vs.toArray k)) (F : Fr h₀ env.locals s.heap m₀) (N : News h₀ env.locals s.heap news) (hj : J 0 news)
    (turn : ∀ i v news₁ h tk I o, vs[i]? = some v → J i news₁ → AllNe I news₁ → Fr h₀ env.locals h (fun y => if y = x then some v else m₀ y) → News h₀ env.locals h ((I, o) :: news₁) →
      wpAny (model prog w) A (execs body env) (TurnEnd h₀ env.locals I o (fun m nx => (∃ u, m = fun y => if y = x then u else m₀ y) ∧ J (i + 1) nx) { s with heap := h, toks := tk } Q) E { s with heap := h, toks := tk })
    (done : ∀ u news₁ h tk, J vs.length news₁ → Fr h₀ env.locals h (fun y => if y = x then u else m₀ y) → News h₀ env.locals h news₁ → Q .next { s with heap := h, toks := tk }) :
    wpAny (model prog w) A (pyIter (.ref l)) (fun it s₂ => LoopAtV prog w A h₀ env x body Q E it s₂) E s := by
  refine iter_led (fun i m nx => (∃ u, m = fun y => if y = x then u else m₀ y) ∧ J i nx) hh (fun i m nx h => hJl i nx h.2) F N ⟨⟨m₀ x, ?_⟩, hj⟩ ?_ ?_
  · funext y
    by_cases e : y = x
    · subst e; simp
    · simp [e]
  · rintro i v m₁ news₁ h tk I o hv ⟨⟨u, rfl⟩, hJ⟩ ne F₁ N₁
    rw [iteSame] at F₁
    exact turn i v news₁ h tk I o hv hJ ne F₁ N₁
  · rintro m₁ news₁ h tk ⟨⟨u, rfl⟩, hJ⟩ F₁ N₁
    exact done u news₁ h tk hJ F₁ N₁
theorem len_led {L l : Addr} {news : List (Addr × Obj)} {vs : List Value} {k : Nat} {Q : Value → Shared → Prop} (N : News h₀ L s.heap news) (hm : (l, listOf vs.toArray k) ∈ news) (hz : vs.length ≤ 1000000)
    (h : Q (.int vs.length (s.toks + 1)) { s with toks := s.toks + 1 + 1 }) : wpAny (model prog w) A (call (.builtin "len") [.ref l]) Q E s := by
  have e : (List.toArray vs).size = vs.length := List.size_toArray
  exact call_len_list ⟨_, N.get hm, rfl, k, rfl⟩ (by rw [e]; omega) (by rw [e]; exact h)
end
end
section
theorem fillF3 : (fun (_ : OpenLaw) (_ : Params → Frag) => True) PySem.Challenge.rw_nc0018_01 hd.heap_1 := by
  k_fill
  exact True.intro
section
variable {w : World} {A : Around} {E : Value → Shared → Prop} {s : Shared} {Q : Value → Shared → Prop} {mg mb : Str → Option Value} {p : Program} {loose : List Str}
local macro_rules | `(tactic| walk_at "exec For Name Name cons nil") => `(tactic| (k_here; refine Hold.mk ?_))
def StayB (D : Addr) (h h' : Heap) : Prop := ∀ b o, b ≠ D → h.get? b = some o → h'.get? b = some o
theorem hide_stay {g h : Heap} {D : Addr} (Sg : Stay g h) (gD : g.get? D = none) : Stay g (h.hide D) := fun b o e => (Heap.hide_ne h fun q => by rw [q, gD] at e; cases e).trans (Sg b o e)
theorem stayB_of {h h' : Heap} {D : Addr} (S : Stay (h.hide D) h') : StayB D h h' := fun b o hne e => S b o ((Heap.hide_ne h hne).trans e)
theorem newsHide {h h₁ : Heap} {D : Addr} {o : Obj} (S : Stay h h₁) (hD : h.get? D = some o) : News (h.hide D) h.objs.size h₁ [(D, o)] := by
  intro p hp
  rw [List.mem_singleton.mp hp]
  exact ⟨S _ _ hD, Nat.ne_of_lt (Heap.lt_size hD), Heap.hide_self _ _⟩
theorem frStayB {h₀ h h' : Heap} {L D : Addr} {m : Str → Option Value} (F : Fr h₀ L h m) (SB : StayB D h h') (h0 : h₀.get? D = none) (hL : D ≠ L) : Fr h₀ L h' m := by
  obtain ⟨o, es, ep, ho, r⟩ := F.ns
  exact ⟨⟨o, es, ep, SB _ _ (Ne.symm hL) ho, r⟩, fun b o e => SB b o (fun q => by rw [q, h0] at e; cases e) (F.keep b o e), F.above⟩
theorem newsStayB {h₀ h h' : Heap} {L D : Addr} {news : List (Addr × Obj)} (N : News h₀ L h news) (SB : StayB D h h') (hne : ∀ p ∈ news, p.1 ≠ D) : News h₀ L h' news := fun p hp => ⟨SB _ _ (hne p hp) (N p hp).1, (N p hp).2⟩
theorem newsCons {h₀ h h' : Heap} {L D : Addr} {o o' : Obj} {news : List (Addr × Obj)} (N : News h₀ L h' news) (N0 : News h₀ L h [(D, o)]) (hD : h'.get? D = some o') : News h₀ L h' ((D, o') :: news) := by
  intro p hp
  rcases List.mem_cons.mp hp with rfl | hp
  · exact ⟨hD, (N0 (D, o) (.head _)).2⟩
  · exact N p hp
theorem take_chunk (xs : List Int) (k i : Nat) : xs.take (i * k) ++ chunk xs k i = xs.take ((i + 1) * k) := by
  unfold chunk
  rw [Nat.add_mul, Nat.one_mul, List.take_add]
theorem fill0 {a dx : Addr} {sl : Array (Option Value)} {v : Value} {D : Addr} {k : Nat} {vs : List Value} {xs xs0 : List Int} {tk0 : Tok} {g : Heap} (X : (hd.heap_1 w.params).In g) (T : TopRead p loose mg mb g) (Sg : Stay g s.heap) (gD : g.get? D = none) (R : Room A 1)
    (ho : g.get? a = some ⟨.ref 303, some dx, .plain, sl⟩) (hdd : g.get? dx = some (dictOf [] 0)) (ht : Tree (At g) 0 v xs) (hD : s.heap.get? D = some (listOf vs.toArray k)) (hv : IntsAre vs xs0) (hbig : xs0.length + xs.length ≤ 100000)
    (h : ∀ h' tk vs' k', StayB D s.heap h' → h'.get? D = some (listOf vs'.toArray k') → IntsAre vs' (xs0 ++ xs) → Q .none { s with heap := h', toks := tk }) : wpAny (model prg w) A (call (.ref 176) [.ref a, v, .int 0 tk0, .ref D]) Q E s := by
  have Sb := hide_stay Sg gD
  obtain ⟨l, us, rfl, hl, hi, h32⟩ := ht
  have Xb := X.keeps Sb
  have Tb := T.keeps Sb
  have hob := Sb _ _ ho
  have hdb := Sb _ _ hdd
  have hlb := (hl.mono Sb).isList
  have hz : us.length ≤ 1000000 := by have := hi.length; omega
  obtain ⟨hA, dp, fr, gd, un⟩ := A
  obtain rfl : hA = none := R.handled
  refine' enter (binds := [(Str.ofString "self", .ref a), (Str.ofString "node", .ref l), (Str.ofString "shift", .int 0 tk0), (Str.ofString "the_list", .ref D)]) (X.keeps Sg) ?r (T.keeps Sg).nolimit ?k6 ?k7 ?k9 ?kB (s.heap.hide D) (fun b o e => Heap.of_hide e) (Nat.le_of_eq (Heap.hide_size _ _)) ?_ ?c5 ?c2 ?c3 ?c4
  (case r => have := R.depth; omega)
  (case k6 => k_dflt k_is)
  (case k7 => k_dflt k_is)
  (case k9 => exact BindsTo.of_eq rfl)
  (case kB => exact locs rfl)
  (case c5 => decide)
  (case c2 => exact rfl)
  (case c3 => exact rfl)
  (case c4 => exact rfl)
  intro h₁ F S
  have N : News (s.heap.hide D) s.heap.objs.size h₁ [(D, listOf vs.toArray k)] := newsHide S hD
  try dsimp only
  k_steps
  rename Fr _ _ _ _ => F1
  rename News _ _ _ _ => N1
  obtain ⟨n2, hl2⟩ := hl
  have hlen := hi.length
  have hlen0 := hv.length
  refine extend_in (own := []) (rest := []) (ys := vs) F1 N1 (by simp) (by simp) (F1.keep _ _ (Sb _ _ hl2)) (fun h' n' F' N' => ?_) (by rw [sizeLine_eq]; simp; omega)
  simp only [List.nil_append] at N'
  clear F1 N1
  k_steps
  rename Fr _ _ _ _ => F2
  rename News _ _ _ _ => N2
  exact h _ _ _ _ (stayB_of F2.keep) (N2.get (.head _)) (hv.append hi)
theorem fill_spec {a dx : Addr} {sl : Array (Option Value)} {D : Addr} {g : Heap} (X : (hd.heap_1 w.params).In g) (T : TopRead p loose mg mb g) (gD : g.get? D = none) (ho : g.get? a = some ⟨.ref 303, some dx, .plain, sl⟩) (hdd : g.get? dx = some (dictOf [] 0)) :
    ∀ (n : Nat) {A : Around} {E : Value → Shared → Prop} {s : Shared} {Q : Value → Shared → Prop} {v : Value} {k : Nat} {vs : List Value} {xs xs0 : List Int} {tk0 : Tok} {sh : Int}, sh = 5 * (n : Int) → Stay g s.heap → Room A (n + 1) →
    Tree (At g) n v xs → s.heap.get? D = some (listOf vs.toArray k) → IntsAre vs xs0 → xs0.length + xs.length ≤ 100000 →
    (∀ h' tk vs' k', StayB D s.heap h' → h'.get? D = some (listOf vs'.toArray k') → IntsAre vs' (xs0 ++ xs) → Q .none { s with heap := h', toks := tk }) → wpAny (model prg w) A (call (.ref 176) [.ref a, v, .int sh tk0, .ref D]) Q E s := by
  intro n
  induction n with
  | zero =>
    intro A E s Q v k vs xs xs0 tk0 sh hsh Sg R ht hD hv hbig h
    obtain rfl : sh = 0 := by omega
    exact fill0 X T Sg gD R ho hdd ht hD hv hbig h
  | succ n ih =>
  intro A E s Q v k vs xs xs0 tk0 sh hsh Sg R ht hD hv hbig h
  have Sb := hide_stay Sg gD
  obtain ⟨l, us, rfl, hl, hb, hch⟩ := ht
  have Xb := X.keeps Sb
  have Tb := T.keeps Sb
  have hob := Sb _ _ ho
  have hdb := Sb _ _ hdd
  have hlb := (hl.mono Sb).isList
  have hpos : sh ≠ 0 := by omega
  obtain ⟨hA, dp, fr, gd, un⟩ := A
  obtain rfl : hA = none := R.handled
  refine' enter (binds := [(Str.ofString "self", .ref a), (Str.ofString "node", .ref l), (Str.ofString "shift", .int sh tk0), (Str.ofString "the_list", .ref D)]) (X.keeps Sg) ?r (T.keeps Sg).nolimit ?k6 ?k7 ?k9 ?kB (s.heap.hide D) (fun b o e => Heap.of_hide e) (Nat.le_of_eq (Heap.hide_size _ _)) ?_ ?c5 ?c2 ?c3 ?c4
  (case r => have := R.depth; omega)
  (case k6 => k_dflt k_is)
  (case k7 => k_dflt k_is)
  (case k9 => exact BindsTo.of_eq rfl)
  (case kB => exact locs rfl)
  (case c5 => decide)
  (case c2 => exact rfl)
  (case c3 => exact rfl)
  (case c4 => exact rfl)
  intro h₁ F S
  have N : News (s.heap.hide D) s.heap.objs.size h₁ [(D, listOf vs.toArray k)] := newsHide S hD
  try dsimp only
  k_steps
  rotate_left
  · exact absurd (by assumption) hpos
  rename Fr _ _ _ _ => F1
  rename News _ _ _ _ => N1
  unfold Hold
  obtain ⟨kl, hl2⟩ := hl
  refine For_invVF F1 rfl rfl (ld F1 rfl ?_)
  refine iter_ledM (l := l) (vs := us) (k := kl) (fun i nx => ∃ vs' k', nx = [(D, listOf vs'.toArray k')] ∧ IntsAre vs' (xs0 ++ xs.take (i * sz n))) rfl (fun _ _ _ => .inl (Sb _ _ hl2)) F1 N1 ⟨vs, k, rfl, by simpa using hv⟩ ?_ ?_
  · rintro i v nx h2 tk2 I o hu ⟨vs', k', rfl, hvi⟩ ne F2 N2
    simp only [AllNe, and_true] at ne
    clear F1 N1
    k_steps
    rename Fr _ _ _ _ => F3
    rename News _ _ _ _ => N3
    have gD' : (s.heap.hide D).get? D = none := Heap.hide_self _ _
    have hDn := N3 _ (.tail _ (.head _))
    refine ih (by omega) (Sb.trans F3.keep) (R.deeper _) (hch i v hu) (N3.get (.tail _ (.head _))) hvi ?_ (fun h' tk' vs'' k'' SB hD' hv' => ?_)
    · have := congrArg List.length (take_chunk xs (sz n) i)
      simp only [List.length_append, List.length_take] at this ⊢
      omega
    · have F4 := frStayB F3 SB gD' hDn.2.1
      have N4 := newsCons (newsStayB (news := [(I, o)]) (fun p hp => N3 p (by rw [List.mem_singleton.mp hp]; exact .head _)) SB (fun p hp => by rw [List.mem_singleton.mp hp]; exact Ne.symm ne)) (fun p hp => N3 p (.tail _ hp)) hD'
      clear F3 N3
      k_steps
      rename Fr _ _ _ _ => F5
      rename News _ _ _ _ => N5
      refine TurnEnd.intro F5 (nx := [(D, listOf vs''.toArray k'')]) (fun p hp => N5 p ?_) (fun p hp => by rw [List.mem_singleton.mp hp]; exact ne) ⟨⟨_, rfl⟩, vs'', k'', rfl, ?_⟩
      · rcases List.mem_cons.mp hp with rfl | hp
        · exact .tail _ (.head _)
        · rw [List.mem_singleton.mp hp]; exact .head _
      · rw [← take_chunk, ← List.append_assoc]; exact hv'
  · rintro u nx h2 tk2 ⟨vs', k', rfl, hvi⟩ F2 N2
    clear F1 N1
    k_steps
    rename Fr _ _ _ _ => F3
    rename News _ _ _ _ => N3
    rw [List.take_of_length_le hb.1] at hvi
    exact h _ _ _ _ (stayB_of F3.keep) (N3.get (.head _)) hvi
end
end
section
theorem fillF4 : (fun (_ : OpenLaw) (_ : Params → Frag) => True) PySem.Challenge.rw_nc0018_01 hd.heap_1 := by
  k_fill
  exact True.intro
section
variable {w : World} {A : Around} {E : Value → Shared → Prop} {s : Shared} {Q : Value → Shared → Prop} {mg mb : Str → Option Value} {p : Program} {loose : List Str}
local macro_rules | `(tactic| walk_at "exec For Name Name cons nil") => `(tactic| (k_here; refine Hold.mk ?_))
theorem len_spec {a : Addr} {xs : List Int} (X : (hd.heap_1 w.params).In s.heap) (T : TopRead p loose mg mb s.heap) (R : Room A 1) (V : PVec (At s.heap) a xs)
    (h : ∀ h' tk t, Stay s.heap h' → Q (.int xs.length t) { s with heap := h', toks := tk }) : wpAny (model prg w) A (call (.ref 85) [.ref a]) Q E s := by
  obtain ⟨dx, tc, r, n, ts, t, to, ys, zs, vs, V, rfl⟩ := V
  have ho : s.heap.get? a = some (vobj dx ((ys.length : Int) + (zs.length : Int)) tc r (5 * (n : Int)) ts t ys.length to) := V.obj
  have hdd : s.heap.get? dx = some (dictOf [] 0) := V.dict
  have hl : s.heap.IsList t vs.toArray := V.tail.isList
  have hvz := V.are.length
  have hfull := V.full
  have hev := V.even
  have hrm := V.room
  have hz : vs.length ≤ 1000000 := by omega
  obtain ⟨hA, dp, fr, gd, un⟩ := A
  obtain rfl : hA = none := R.handled
  refine' enter (binds := [(Str.ofString "self", .ref a)]) X ?r T.nolimit ?k6 ?k7 ?k9 ?kB (s.heap) (Stay.refl _) (Nat.le_refl _) ?_ ?c5 ?c2 ?c3 ?c4
  (case r => have := R.depth; omega)
  (case k6 => k_dflt k_is)
  (case k7 => k_dflt k_is)
  (case k9 => exact BindsTo.of_eq rfl)
  (case kB => exact locs rfl)
  (case c5 => decide)
  (case c2 => exact rfl)
  (case c3 => exact rfl)
  (case c4 => exact rfl)
  intro h₁ F S
  have N : News (s.heap) s.heap.objs.size h₁ [] := News.nil
  try dsimp only
  k_steps
  rename Fr _ _ _ _ => F1
  have h2 := h h₁ (s.toks + 1 + 1) tc F1.keep
  rw [List.length_append, Int.natCast_add] at h2
  exact h2
theorem tolist_spec {a : Addr} {xs : List Int} (X : (hd.heap_1 w.params).In s.heap) (T : TopRead p loose mg mb s.heap) (R : Room A 6) (V : PVec (At s.heap) a xs) (hbig : xs.length ≤ 10000)
    (h : ∀ h' tk l vs, Stay s.heap h' → FLst s.heap h' l vs → IntsAre vs xs → Q (.ref l) { s with heap := h', toks := tk }) : wpAny (model prg w) A (call (.ref 183) [.ref a]) Q E s := by
  obtain ⟨dx, tc, r, n, ts, t, to, ys, zs, vs, V, rfl⟩ := V
  have ho : s.heap.get? a = some (vobj dx ((ys.length : Int) + (zs.length : Int)) tc r (5 * (n : Int)) ts t ys.length to) := V.obj
  have hdd : s.heap.get? dx = some (dictOf [] 0) := V.dict
  have hl : s.heap.IsList t vs.toArray := V.tail.isList
  have hvz := V.are.length
  have hfull := V.full
  have hev := V.even
  have hrm := V.room
  have hz : vs.length ≤ 1000000 := by omega
  rw [List.length_append] at hbig
  obtain ⟨hA, dp, fr, gd, un⟩ := A
  obtain rfl : hA = none := R.handled
  refine' enter (binds := [(Str.ofString "self", .ref a)]) X ?r T.nolimit ?k6 ?k7 ?k9 ?kB (s.heap) (Stay.refl _) (Nat.le_refl _) ?_ ?c5 ?c2 ?c3 ?c4
  (case r => have := R.depth; omega)
  (case k6 => k_dflt k_is)
  (case k7 => k_dflt k_is)
  (case k9 => exact BindsTo.of_eq rfl)
  (case kB => exact locs rfl)
  (case c5 => decide)
  (case c2 => exact rfl)
  (case c3 => exact rfl)
  (case c4 => exact rfl)
  intro h₁ F S
  have N : News (s.heap) s.heap.objs.size h₁ [] := News.nil
  try dsimp only
  k_steps
  rename Fr _ _ _ _ => F1
  rename News _ _ _ _ => N1
  have hD1 := N1 _ (.head _)
  refine fill_spec X T (N1.fresh (.head _)) ho hdd n rfl F1.keep ((R.deeper _).less (by rcases V.level with e | e <;> omega)) V.tree (vs := []) (N1.get (.head _)) .nil (by simp; omega) (fun h' tk' vs' k' SB hD' hv' => ?_)
  have F2 := frStayB F1 SB (N1.fresh (.head _)) hD1.2.1
  have N2 := newsCons (h' := h') News.nil N1 hD'
  clear F1 N1
  k_steps
  rename Fr _ _ _ _ => F3
  rename News _ _ _ _ => N3
  obtain ⟨n2, hl2⟩ := V.tail
  have hlen := hv'.length
  rw [List.nil_append] at hlen hv'
  refine extend_in (own := []) (rest := []) (ys := vs') F3 N3 (by simp) (by simp) (F3.keep _ _ hl2) (fun h' n' F' N' => ?_) (by rw [sizeLine_eq]; simp; omega)
  simp only [List.nil_append] at N'
  clear F3 N3
  k_steps
  rename Fr _ _ _ _ => F5
  rename News _ _ _ _ => N5
  exact h _ _ _ _ F5.keep (fLst N5 (.head _)) (hv'.append V.are)
end
end
section
theorem fillF5 : (fun (_ : OpenLaw) (_ : Params → Frag) => True) PySem.Challenge.rw_nc0018_01 hd.heap_1 := by
  k_fill
  exact True.intro
section
variable {w : World} {A : Around} {E : Value → Shared → Prop} {s : Shared} {Q : Value → Shared → Prop} {mg mb : Str → Option Value} {p : Program} {loose : List Str}
theorem instMix {h₀ h : Heap} {L : Addr} {m : Str → Option Value} {news : List (Addr × Obj)} (F : Fr h₀ L h m) (N : News h₀ L h news) {a dx C : Addr} {sl : Array (Option Value)} {es : List DictEntry} {n : Nat} (ho : (a, (⟨.ref C, some dx, .plain, sl⟩ : Obj)) ∈ news) (hd : h₀.get? dx = some (dictOf es n)) :
    InstAt h a ⟨.ref C, some dx, .plain, sl⟩ C (some (dictOf es n)) := ⟨N.get ho, rfl, rfl, F.keep _ _ hd⟩
theorem hide_none {h : Heap} {a b : Addr} (e : (h.hide a).get? b = none) (hne : b ≠ a) : h.get? b = none := (Heap.hide_ne h hne).symm.trans e
theorem fullT2 {h₀ h : Heap} {L : Addr} {m : Str → Option Value} (F : Fr h₀ L h m) (ex : List Addr) (hex : ∀ b ∈ ex, ∀ its k, h.get? b ≠ some (listOf its k)) : ∃ nw, News h₀ L h nw ∧ OwnOff nw ex ∧ ∀ n v xs, Tree (At h) n v xs → Tree (Lg h₀ nw) n v xs := by
  obtain ⟨nw, N, O, U⟩ := full F ex
  exact ⟨nw, N, O, fun n v xs t => t.monoL fun a its k e => U a _ e (notL F e) (fun q => hex a q its k e)⟩
local macro_rules | `(tactic| k_inst) => `(tactic| exact instMix (by k_asm) (by k_asm) (by k_mem) (by k_asm))
theorem insert_tail_spec {a dx : Addr} {tc : Tok} {r : Addr} {n : Nat} {ts : Tok} {t : Addr} {off : Int} {to : Tok} {ys zs : List Int} {vs : List Value} {T' : Lk} {g : Heap} (X : (hd.heap_1 w.params).In g) (T : TopRead p loose mg mb g) (Sg : Stay g s.heap) (ga : g.get? a = none) (R : Room A 8)
    (V : Vec (At s.heap) T' a dx tc r n ts t off to ys zs vs) (le : Le T' (At s.heap)) (h32 : zs.length = 32) (hbig : ys.length ≤ 4000)
    (h : ∀ h' tk (T2 : Lk) r' n' ts' t', StayB a s.heap h' → s.heap.get? t' = none → Vec (At h') T2 a dx tc r' n' ts' t' off to (ys ++ zs) [] [] → Le T2 (At h') → (∀ o, ¬ T2 t' o) → (∀ o, ¬ T2 a o) → Q .none { s with heap := h', toks := tk }) : wpAny (model prg w) A (call (.ref 242) [.ref a]) Q E s := by
  have Sb := hide_stay Sg ga
  have Xb := X.keeps Sb
  have Tb := T.keeps Sb
  have ho : s.heap.get? a = some (vobj dx ((ys.length : Int) + (zs.length : Int)) tc r (5 * (n : Int)) ts t off to) := V.obj
  have hda : dx ≠ a := by
    intro e
    have := V.dict
    unfold At at this
    rw [e, ho] at this
    cases this
  have hdb : (s.heap.hide a).get? dx = some (dictOf [] 0) := (Heap.hide_ne _ hda).trans V.dict
  obtain ⟨hA, dp, fr, gd, un⟩ := A
  obtain rfl : hA = none := R.handled
  refine' enter (binds := [(Str.ofString "self", .ref a)]) (X.keeps Sg) ?r (T.keeps Sg).nolimit ?k6 ?k7 ?k9 ?kB (s.heap.hide a) (fun b o e => Heap.of_hide e) (Nat.le_of_eq (Heap.hide_size _ _)) ?_ ?c5 ?c2 ?c3 ?c4
  (case r => have := R.depth; omega)
  (case k6 => k_dflt k_is)
  (case k7 => k_dflt k_is)
  (case k9 => exact BindsTo.of_eq rfl)
  (case kB => exact locs rfl)
  (case c5 => decide)
  (case c2 => exact rfl)
  (case c3 => exact rfl)
  (case c4 => exact rfl)
  intro h₁ F S
  have N : News (s.heap.hide a) s.heap.objs.size h₁ [(a, vobj dx ((ys.length : Int) + (zs.length : Int)) tc r (5 * (n : Int)) ts t off to)] := newsHide S ho
  try dsimp only
  k_steps
  dsimp only [List.append_nil]
  rename Fr _ _ _ _ => F1
  rename News _ _ _ _ => N1
  refine create_spec (T' := T') (Xb.keeps F1.keep) (Tb.keeps F1.keep) ((R.deeper _).less (by omega)) (V.mono S.le (fun _ _ e => e)) (fun _ _ e => S _ _ (le _ _ e)) h32 (by omega) (fun h' tk' l r' n' k ts' S' hn ha tr hlv hrm' => ?_)
  have F2 := frStay F1 S'
  have N2 := newsAdd F1 (newsStay N1 S') hn ha
  have ne2 := allNe hn N1
  simp only [AllNe, and_true] at ne2
  obtain ⟨nw, Nw, off2, UT⟩ := fullT2 F2 [l, a] (by
    intro b hb its kk e
    rcases List.mem_cons.mp hb with rfl | hb
    · rw [ha] at e; exact absurd (congrArg Obj.cls (Option.some.inj e)) (show Value.type "tuple" ≠ Value.type "list" by decide)
    · rw [List.mem_singleton.mp hb, N2.get (.tail _ (.head _))] at e; cases e)
  have tr' := UT _ _ _ tr
  have N3 := newsApp N2 Nw
  simp only [List.cons_append, List.nil_append] at N3
  clear F1 N1 N2 Nw UT
  k_steps
  rename Fr _ _ _ _ => F4
  rename News _ _ _ _ => N4
  rename (_ ∧ _ ∧ AllLt _ _) => l3
  have le4 := subLg F4 N4 (nw := nw) (fun p hp => .tail _ (.tail _ (.tail _ hp)))
  have ho4 := (N4.get (.tail _ (.tail _ (.head _)))).trans (vobj_eq (c' := ((ys ++ zs).length : Int) + (([] : List Int).length : Int)) (by simp) rfl rfl)
  have hf := N4.fresh (.head _)
  have hnew := (N4 _ (.head _))
  refine h _ _ (Lg (s.heap.hide a) nw) r' n' ts' _ (stayB_of F4.keep) ?_ ⟨ho4, F4.keep _ _ hdb, tr', ⟨0, N4.get (.head _)⟩, .nil, by simp, hlv, by rw [List.length_append, h32]; have := V.even; omega, hrm'⟩ le4 ?_ ?_
  · exact hide_none hf (Nat.ne_of_gt l3.2.1)
  · rintro o (e | e)
    · rw [hf] at e; cases e
    · exact absurd (allLt_mem l3.2.2 _ e) (Nat.lt_irrefl _)
  · rintro o (e | e)
    · rw [Heap.hide_self] at e; cases e
    · exact off2 _ e a (.tail _ (.head _)) rfl
end
end
section
theorem fillF6 : (fun (_ : OpenLaw) (_ : Params → Frag) => True) PySem.Challenge.rw_nc0018_01 hd.heap_1 := by
  k_fill
  exact True.intro
section
variable {w : World} {A : Around} {E : Value → Shared → Prop} {s : Shared} {Q : Value → Shared → Prop} {mg mb : Str → Option Value} {p : Program} {loose : List Str}
local macro_rules | `(tactic| walk_at "ite") => `(tactic| first | with_reducible refine ite_tt ?_ | with_reducible refine ite_ff ?_)
local macro_rules | `(tactic| k_inst) => `(tactic| exact instMix (by k_asm) (by k_asm) (by k_mem) (by k_asm))
local macro_rules | `(tactic| walk_at "call builtin:len") => `(tactic| (k_here; k_dflt (refine' len_led ?F ?l ?z ?_; (case F => k_asm); (case l => k_mem); (case z => (first | k_asm | omega)); k_whole)))
local macro_rules | `(tactic| walk_at "exec While Compare cons nil") => `(tactic| (k_here; refine Hold.mk ?_))
def StayB2 (D D' : Addr) (h h' : Heap) : Prop := ∀ b o, b ≠ D → b ≠ D' → h.get? b = some o → h'.get? b = some o
theorem newsHide2 {h h₁ : Heap} {a t : Addr} {oa ot : Obj} (S : Stay h h₁) (ha : h.get? a = some oa) (ht : h.get? t = some ot) : News ((h.hide a).hide t) h.objs.size h₁ [(a, oa), (t, ot)] := by
  have z : ((h.hide a).hide t).get? a = none := by
    cases q : ((h.hide a).hide t).get? a with
    | none => rfl
    | some o => have := Heap.of_hide q; rw [Heap.hide_self] at this; cases this
  intro p hp
  rcases List.mem_cons.mp hp with rfl | hp
  · exact ⟨S _ _ ha, Nat.ne_of_lt (Heap.lt_size ha), z⟩
  · rw [List.mem_singleton.mp hp]
    exact ⟨S _ _ ht, Nat.ne_of_lt (Heap.lt_size ht), Heap.hide_self _ _⟩
theorem min_slice {o z e : Nat} (hz : z ≤ 32) : min (min ((o : Int) + (32 - (z : Int))).toNat e - o) (e - o) = min (32 - z) (e - o) := by
  have h1 : ((o : Int) + (32 - (z : Int))).toNat = o + (32 - z) := by omega
  rw [h1, ← Nat.sub_min_sub_right, Nat.add_sub_cancel_left, Nat.min_assoc, Nat.min_self]
theorem fill_tail_spec {a dx : Addr} {c : Int} {tc : Tok} {r : Addr} {sh : Int} {ts : Tok} {t : Addr} {off : Int} {to : Tok} {zs es : List Int} {vs qs : List Value} {k o : Nat} {tk0 : Tok} {q : Addr} {g : Heap} (X : (hd.heap_1 w.params).In g) (T : TopRead p loose mg mb g) (Sg : Stay g s.heap) (ga : g.get? a = none) (gt : g.get? t = none) (R : Room A 1)
    (ho : s.heap.get? a = some (vobj dx c tc r sh ts t off to)) (hdd : s.heap.get? dx = some (dictOf [] 0)) (ht : s.heap.get? t = some (listOf vs.toArray k)) (hv : IntsAre vs zs) (hz : zs.length ≤ 32) (hq : Lst (At g) q qs) (he : IntsAre qs es) (hbig : es.length ≤ 10000) (hoe : o ≤ es.length)
    (h : ∀ h' tk tc' tk1 k' vs', StayB2 a t s.heap h' → h'.get? a = some (vobj dx (c + (((es.drop o).take (32 - zs.length)).length : Int)) tc' r sh ts t off to) → h'.get? t = some (listOf vs'.toArray k') → IntsAre vs' (zs ++ (es.drop o).take (32 - zs.length)) → Q (.int ((o : Int) + (((es.drop o).take (32 - zs.length)).length : Int)) tk1) { s with heap := h', toks := tk }) : wpAny (model prg w) A (call (.ref 249) [.ref a, .int o tk0, .ref q]) Q E s := by
  have hta : t ≠ a := by
    intro e
    rw [e, ho] at ht
    cases ht
  have hda : dx ≠ a := by
    intro e
    rw [e, ho] at hdd
    cases hdd
  have hdt : dx ≠ t := by
    intro e
    rw [e, ht] at hdd
    exact absurd (congrArg Obj.cls (Option.some.inj hdd)) (show Value.type "list" ≠ Value.type "dict" by decide)
  have Sb := hide_stay (hide_stay Sg ga) gt
  have Xb := X.keeps Sb
  have Tb := T.keeps Sb
  have hdb : ((s.heap.hide a).hide t).get? dx = some (dictOf [] 0) := (Heap.hide_ne _ hdt).trans ((Heap.hide_ne _ hda).trans hdd)
  have hqb := (hq.mono Sb).isList
  have hzq : qs.length ≤ 1000000 := by have := he.length; omega
  have hat : @Ne Nat a t := Ne.symm hta
  obtain ⟨hA, dp, fr, gd, un⟩ := A
  obtain rfl : hA = none := R.handled
  refine' enter (binds := [(Str.ofString "self", .ref a), (Str.ofString "offset", .int o tk0), (Str.ofString "sequence", .ref q)]) (X.keeps Sg) ?r (T.keeps Sg).nolimit ?k6 ?k7 ?k9 ?kB ((s.heap.hide a).hide t) (fun b o e => Heap.of_hide (Heap.of_hide e)) (Nat.le_of_eq ((Heap.hide_size _ _).trans (Heap.hide_size _ _))) ?_ ?c5 ?c2 ?c3 ?c4
  (case r => have := R.depth; omega)
  (case k6 => k_dflt k_is)
  (case k7 => k_dflt k_is)
  (case k9 => first | exact BindsTo.of_eq rfl | exact binds_K X rfl (by k_dflt k_is) rfl rfl rfl)
  (case kB => exact locs rfl)
  (case c5 => decide)
  (case c2 => exact rfl)
  (case c3 => exact rfl)
  (case c4 => exact rfl)
  intro h₁ F S
  have N : News ((s.heap.hide a).hide t) s.heap.objs.size h₁ [(a, vobj dx c tc r sh ts t off to), (t, listOf vs.toArray k)] := newsHide2 S ho ht
  try dsimp only
  k_steps
  rename IntsAre _ _ => hI
  rename Fr _ _ _ _ => F1
  rename News _ _ _ _ => N1
  rename (a < _ ∧ t < _) => l3
  have e : List.take (min ((o : Int) + (32 - (zs.length : Int))).toNat es.length - ((o : Int)).toNat) (List.drop ((o : Int)).toNat es) = (es.drop o).take (32 - zs.length) := by
    rw [Int.toNat_natCast, List.take_eq_take_iff, List.length_drop]
    exact min_slice hz
  rw [e] at hI
  have hds : ((es.drop o).take (32 - zs.length)).length ≤ 32 - zs.length := List.length_take_le ..
  generalize (es.drop o).take (32 - zs.length) = ds at *
  have hlen := hI.length
  have hlv := hv.length
  refine extend_in (own := [(_, _), (a, _)]) (rest := []) (ys := vs) F1 N1 (fun p hp => ?_) (by simp) (N1.get (.head _)) (fun h' n' F' N' => ?_) ?_
  · rcases List.mem_cons.mp hp with rfl | hp
    · exact Nat.ne_of_gt l3.2
    · rw [List.mem_singleton.mp hp]; exact hat
  · simp only [List.cons_append, List.nil_append] at N'
    clear F1 N1
    k_steps
    rename Fr _ _ _ _ => F3
    rename News _ _ _ _ => N3
    rw [← hlen] at h
    exact h _ _ _ _ _ _ (fun b o h1 h2 e => F3.keep b o ((Heap.hide_ne _ h2).trans ((Heap.hide_ne _ h1).trans e))) (N3.get (.tail _ (.head _))) (N3.get (.tail _ (.tail _ (.head _)))) (hv.append hI)
  · rw [sizeLine_eq]; simp; omega
end
end
section
theorem fillF7 : (fun (_ : OpenLaw) (_ : Params → Frag) => True) PySem.Challenge.rw_nc0018_01 hd.heap_1 := by
  k_fill
  exact True.intro
section
variable {w : World} {A : Around} {E : Value → Shared → Prop} {s : Shared} {Q : Value → Shared → Prop} {mg mb : Str → Option Value} {p : Program} {loose : List Str}
local macro_rules | `(tactic| walk_at "ite") => `(tactic| first | with_reducible refine ite_tt ?_ | with_reducible refine ite_ff ?_)
local macro_rules | `(tactic| k_inst) => `(tactic| exact instMix (by k_asm) (by k_asm) (by k_mem) (by k_asm))
local macro_rules | `(tactic| walk_at "call builtin:len") => `(tactic| (k_here; k_dflt (refine' len_led ?F ?l ?z ?_; (case F => k_asm); (case l => k_mem); (case z => (first | k_asm | omega)); k_whole)))
local macro_rules | `(tactic| walk_at "exec While Compare cons nil") => `(tactic| (k_here; refine Hold.mk ?_))
theorem while_led1 {prog : Program} {Q : Flow → Shared → Prop} {env : Env} {h₀ : Heap} {L : Addr} {test : Expr} {body : List Stmt} {pos : Pos} {m₀ : Str → Option Value} {news : List (Addr × Obj)} {x : Str} {v₀ : Value} (J : Nat → Value → List (Addr × Obj) → Prop) {n₀ : Nat}
    (F : Fr h₀ L s.heap m₀) (hx : m₀ x = some v₀) (N : News h₀ L s.heap news) (hJ : J n₀ v₀ news)
    (turn : ∀ n v news₁ h₁ tk₁, Fr h₀ L h₁ (fun y => if y = x then some v else m₀ y) → News h₀ L h₁ news₁ → J n v news₁ →
      wpAny (model prog w) A (isTrue test env (eval test env)) (fun b s₂ =>
        if b = true then wpAny (model prog w) A (execs body env) (WhileStep h₀ L s (fun n m nx => ∃ v, (m = fun y => if y = x then some v else m₀ y) ∧ J n v nx) n) E s₂ else Q .next s₂) E { s with heap := h₁, toks := tk₁ })
    (hE : PassesOwn (model prog w) A env E) :
    wpAny (model prog w) A (exec (.While test body [] pos) env) Q E s := by
  refine While_inv (fun n m nx => ∃ v, (m = fun y => if y = x then some v else m₀ y) ∧ J n v nx) (n₀ := n₀) F N ⟨v₀, ?_, hJ⟩ ?_ hE
  · funext y
    by_cases e : y = x
    · subst e; simp [hx]
    · simp [e]
  · rintro n m₁ news₁ h₁ tk₁ F₁ N₁ ⟨v, rfl, hJ⟩
    exact turn n v news₁ h₁ tk₁ F₁ N₁ hJ
theorem frStayB2 {h₀ h h' : Heap} {L D D' : Addr} {m : Str → Option Value} (F : Fr h₀ L h m) (SB : StayB2 D D' h h') (h0 : h₀.get? D = none) (h1 : h₀.get? D' = none) (hL : D ≠ L) (hL' : D' ≠ L) : Fr h₀ L h' m := by
  obtain ⟨o, es, ep, ho, r⟩ := F.ns
  exact ⟨⟨o, es, ep, SB _ _ (Ne.symm hL) (Ne.symm hL') ho, r⟩, fun b o e => SB b o (fun q => by rw [q, h0] at e; cases e) (fun q => by rw [q, h1] at e; cases e) (F.keep b o e), F.above⟩
theorem newsStayB2 {h₀ h h' : Heap} {L D D' : Addr} {o o' p p' : Obj} {nw : List (Addr × Obj)} (N : News h₀ L h ((D, o) :: (D', o') :: nw)) (SB : StayB2 D D' h h') (hne : OwnOff nw [D, D']) (hD : h'.get? D = some p) (hD' : h'.get? D' = some p') : News h₀ L h' ((D, p) :: (D', p') :: nw) := by
  intro q hq
  rcases List.mem_cons.mp hq with rfl | hq
  · exact ⟨hD, (N (D, o) (.head _)).2⟩
  rcases List.mem_cons.mp hq with rfl | hq
  · exact ⟨hD', (N (D', o') (.tail _ (.head _))).2⟩
  · exact ⟨SB _ _ (hne q hq D (.head _)) (hne q hq D' (.tail _ (.head _))) (N q (.tail _ (.tail _ hq))).1, (N q (.tail _ (.tail _ hq))).2⟩
/-- the state of the extending loop -/
def MutJ (b : Heap) (a dx : Addr) (off : Int) (to : Tok) (ws es : List Int) (μ : Nat) (v : Value) (nx : List (Addr × Obj)) : Prop :=
  ∃ (o : Nat) (tk tc : Tok) (r : Addr) (n : Nat) (ts : Tok) (t : Addr) (ys zs : List Int) (vs : List Value) (k : Nat) (nw : List (Addr × Obj)),
    v = .int (o : Int) tk ∧ nx = (a, vobj dx ((ys.length : Int) + (zs.length : Int)) tc r (5 * (n : Int)) ts t off to) :: (t, listOf vs.toArray k) :: nw ∧ OwnOff nw [a, t] ∧ @Ne Nat a t ∧
    Tree (Lg b nw) n (.ref r) ys ∧ IntsAre vs zs ∧ zs.length ≤ 32 ∧ (n = 1 ∨ n = 2) ∧ ys.length % 32 = 0 ∧ ys.length ≤ sz n ∧ ys ++ zs = ws ++ es.take o ∧ o ≤ es.length ∧ μ = 2 * (es.length - o) + (if zs.length = 32 then 1 else 0)
theorem ds_facts {d z e o : Nat} (h : d = min (32 - z) (e - o)) (hz : z ≤ 32) (ho : o < e) : z + d ≤ 32 ∧ o + d ≤ e ∧ (0 < d ∨ z = 32) := by
  refine ⟨?_, ?_, ?_⟩
  · have a : d ≤ 32 - z := h ▸ Nat.min_le_left _ _
    clear h ho
    omega
  · have a : d ≤ e - o := h ▸ Nat.min_le_right _ _
    clear h hz
    omega
  · rcases Nat.lt_or_ge z 32 with q | q
    · exact .inl (h ▸ Nat.lt_min.mpr ⟨Nat.sub_pos_of_lt q, Nat.sub_pos_of_lt ho⟩)
    · exact .inr (Nat.le_antisymm hz q)
theorem mu_less {e o d a b : Nat} (h : o + d ≤ e) (h2 : a < 2 * d + b) : 2 * (e - (o + d)) + a < 2 * (e - o) + b := by omega
/-- the tail of the vector is not among the objects of g -/
def NTail (g h : Heap) (a : Addr) : Prop := ∃ dx c tc r sh ts t off to, h.get? a = some (vobj dx c tc r sh ts t off to) ∧ g.get? t = none
theorem NTail.keeps {g h h' : Heap} {a : Addr} (N : NTail g h a) (S : Stay h h') : NTail g h' a := by
  obtain ⟨dx, c, tc, r, sh, ts, t, off, to, e, z⟩ := N
  exact ⟨dx, c, tc, r, sh, ts, t, off, to, S _ _ e, z⟩
theorem none_of_stay {g g' : Heap} {t : Addr} (S : Stay g' g) (z : g.get? t = none) : g'.get? t = none := by
  cases e : g'.get? t with
  | none => rfl
  | some o => rw [S _ _ e] at z; cases z
theorem NTail.less {g g' h : Heap} {a : Addr} (N : NTail g h a) (S : Stay g' g) : NTail g' h a := by
  obtain ⟨dx, c, tc, r, sh, ts, t, off, to, e, z⟩ := N
  exact ⟨dx, c, tc, r, sh, ts, t, off, to, e, none_of_stay S z⟩
theorem NVec.tailNew {g h : Heap} {a : Addr} {xs : List Int} (H : NVec g h a xs) : NTail g h a := by
  unfold NVec at H
  obtain ⟨T, dx, tc, r, n, ts, t, to, ys, zs, vs, V, e, l, z1, z2, z3, z4⟩ := H
  exact ⟨_, _, _, _, _, _, _, _, _, V.obj, z3⟩
theorem mut_extend_spec {a dx : Addr} {tc : Tok} {r : Addr} {n : Nat} {ts : Tok} {t : Addr} {off : Int} {to : Tok} {ys zs es : List Int} {vs qs : List Value} {q : Addr} {g : Heap} {T' : Lk} (X : (hd.heap_1 w.params).In g) (T : TopRead p loose mg mb g) (Sg : Stay g s.heap) (ga : g.get? a = none) (gt : g.get? t = none) (R : Room A 10)
    (V : Vec (At s.heap) T' a dx tc r n ts t off to ys zs vs) (le : Le T' (At s.heap)) (nt : ∀ o, ¬ T' t o) (na : ∀ o, ¬ T' a o) (hz : zs.length ≤ 32) (hq : Lst (At g) q qs) (he : IntsAre qs es) (hbig : ys.length + zs.length + es.length ≤ 2000)
    (h : ∀ h' tk, StayB2 a t s.heap h' → PVec (At h') a (ys ++ zs ++ es) → NTail g h' a → Q .none { s with heap := h', toks := tk }) : wpAny (model prg w) A (call (.ref 256) [.ref a, .ref q]) Q E s := by
  obtain ⟨k, ht⟩ := V.tail
  have ho : s.heap.get? a = some (vobj dx ((ys.length : Int) + (zs.length : Int)) tc r (5 * (n : Int)) ts t off to) := V.obj
  have hdd : s.heap.get? dx = some (dictOf [] 0) := V.dict
  unfold At at ht
  have hta : t ≠ a := by
    intro e
    rw [e, ho] at ht
    cases ht
  have hda : dx ≠ a := by
    intro e
    rw [e, ho] at hdd
    cases hdd
  have hdt : dx ≠ t := by
    intro e
    rw [e, ht] at hdd
    exact absurd (congrArg Obj.cls (Option.some.inj hdd)) (show Value.type "list" ≠ Value.type "dict" by decide)
  have Sb := hide_stay (hide_stay Sg ga) gt
  have Xb := X.keeps Sb
  have Tb := T.keeps Sb
  have hdb : ((s.heap.hide a).hide t).get? dx = some (dictOf [] 0) := (Heap.hide_ne _ hdt).trans ((Heap.hide_ne _ hda).trans hdd)
  have hqb := (hq.mono Sb).isList
  have hzq : qs.length ≤ 1000000 := by have := he.length; omega
  have hat : @Ne Nat a t := Ne.symm hta
  obtain ⟨hA, dp, fr, gd, un⟩ := A
  obtain rfl : hA = none := R.handled
  refine' enter (binds := [(Str.ofString "self", .ref a), (Str.ofString "sequence", .ref q)]) (X.keeps Sg) ?r (T.keeps Sg).nolimit ?k6 ?k7 ?k9 ?kB ((s.heap.hide a).hide t) (fun b o e => Heap.of_hide (Heap.of_hide e)) (Nat.le_of_eq ((Heap.hide_size _ _).trans (Heap.hide_size _ _))) ?_ ?c5 ?c2 ?c3 ?c4
  (case r => have := R.depth; omega)
  (case k6 => k_dflt k_is)
  (case k7 => k_dflt k_is)
  (case k9 => first | exact BindsTo.of_eq rfl | exact binds_K X rfl (by k_dflt k_is) rfl rfl rfl)
  (case kB => exact locs rfl)
  (case c5 => decide)
  (case c2 => exact rfl)
  (case c3 => exact rfl)
  (case c4 => exact rfl)
  intro h₁ F S
  have N : News ((s.heap.hide a).hide t) s.heap.objs.size h₁ [(a, vobj dx ((ys.length : Int) + (zs.length : Int)) tc r (5 * (n : Int)) ts t off to), (t, listOf vs.toArray k)] := newsHide2 S ho ht
  try dsimp only
  k_steps
  rename Fr _ _ _ _ => F1
  rename News _ _ _ _ => N1
  unfold Hold
  have leT : Le T' (At ((s.heap.hide a).hide t)) := fun x o e => (Heap.hide_ne _ (show x ≠ t from fun q => nt o (q ▸ e))).trans ((Heap.hide_ne _ (show x ≠ a from fun q => na o (q ▸ e))).trans (le _ _ e))
  refine while_led1 (x := Str.ofString "offset") (MutJ ((s.heap.hide a).hide t) a dx off to (ys ++ zs) es) F1 rfl N1 ⟨0, _, tc, r, n, ts, t, ys, zs, vs, k, [], rfl, rfl, fun _ hp => (nomatch hp), hat, V.tree.mono fun x o e => .inl (leT x o e), V.are, hz, V.level, V.even, V.room, by simp, Nat.zero_le _, rfl⟩ ?_ (by passes_own)
  rintro μ v nx h2 tk2 F2 N2 ⟨o, tko, tc2, r2, n2, ts2, t2, ys2, zs2, vs2, k2, nw2, rfl, rfl, off2, hat2, tr2, hv2, hz2, hlv2, hev2, hrm2, hxs, hoe, rfl⟩
  clear F1 N1
  have hqe := he.length
  have hba : ((s.heap.hide a).hide t).get? a = none := (N2 _ (.head _)).2.2
  have hbt : ((s.heap.hide a).hide t).get? t2 = none := (N2 _ (.tail _ (.head _))).2.2
  have haL := (N2 _ (.head _)).2.1
  have htL := (N2 _ (.tail _ (.head _))).2.1
  have hlen2 := hv2.length
  have hxl : ys2.length + zs2.length ≤ ys.length + zs.length + es.length := by
    have q := congrArg List.length hxs
    simp only [List.length_append, List.length_take] at q
    exact Nat.le_trans (Nat.le_of_eq q) (Nat.add_le_add_left (Nat.min_le_right _ _) _)
  k_steps
  · rename ((o : Int) < _) => hlt
    rename Fr _ _ _ _ => F3
    rename News _ _ _ _ => N3
    refine fill_tail_spec (g := (s.heap.hide a).hide t) (zs := zs2) (es := es) Xb Tb F3.keep hba hbt ((R.deeper _).less (by omega)) (N3.get (.head _)) (F3.keep _ _ hdb) (N3.get (.tail _ (.head _))) hv2 hz2 (hq.mono Sb) he (by omega) hoe (fun h3 tk3 tc3 tk4 k3 vs3 SB ha3 ht3 hv3 => ?_)
    have F4 := frStayB2 F3 SB hba hbt haL htL
    have N4 := newsStayB2 N3 SB off2 ha3 ht3
    have hds : ((es.drop o).take (32 - zs2.length)).length = min (32 - zs2.length) (es.length - o) := by simp
    have hdt : es.take o ++ (es.drop o).take (32 - zs2.length) = es.take (o + ((es.drop o).take (32 - zs2.length)).length) := by
      rw [List.take_add, List.append_cancel_left_eq, List.take_eq_take_iff, List.length_take, Nat.min_assoc, Nat.min_self]
    generalize (es.drop o).take (32 - zs2.length) = ds at *
    obtain ⟨hd1, hd2, hd3⟩ := ds_facts hds hz2 (show o < es.length by omega)
    clear hds
    have hlen3 := hv3.length
    rw [List.length_append] at hlen3
    clear F3 N3
    k_steps
    · rename ((vs3.length : Int) = 32) => h32
      rename Fr _ _ _ _ => F5
      rename News _ _ _ _ => N5
      dsimp only [List.append_nil]
      have le5 := subLg F5 N5 (nw := nw2) (fun p hp => .tail _ (.tail _ hp))
      have ho5 := (N5.get (.head _)).trans (vobj_eq (c' := (ys2.length : Int) + ((zs2 ++ ds).length : Int)) (by simp; omega) rfl rfl)
      refine insert_tail_spec (g := (s.heap.hide a).hide t) (T' := Lg ((s.heap.hide a).hide t) nw2) (zs := zs2 ++ ds) Xb Tb F5.keep hba ((R.deeper _).less (by omega)) ⟨ho5, F5.keep _ _ hdb, tr2, ⟨k3, N5.get (.tail _ (.head _))⟩, hv3, by rw [List.length_append]; omega, hlv2, hev2, hrm2⟩ le5 (by rw [List.length_append]; omega) (by omega) (fun h6 tk6 T6 r6 n6 ts6 t6 SB6 hn6 V6 le6 nt6 na6 => ?_)
      have F6 := frStayB F5 SB6 hba haL
      obtain ⟨nw6, N6, off6, U6⟩ := full F6 [a, t6]
      have tr6 : Tree (Lg ((s.heap.hide a).hide t) nw6) n6 (.ref r6) (ys2 ++ (zs2 ++ ds)) := V6.tree.monoL fun x its kk e => U6 x _ (le6 _ _ e) (notL F6 (le6 _ _ e)) (fun hm => by
        rcases List.mem_cons.mp hm with q | hm
        · exact na6 _ (q ▸ e)
        · exact nt6 _ (List.mem_singleton.mp hm ▸ e))
      obtain ⟨k6, ht6⟩ := V6.tail
      have N7 := newsCons (newsAdd F5 N6 hn6 ht6) (D := a) (fun p hp => N5 p (by rw [List.mem_singleton.mp hp]; exact .head _)) V6.obj
      have hat6 : @Ne Nat a t6 := fun q => by
        have := N5.get (.head _)
        rw [q] at this
        rw [this] at hn6; cases hn6
      clear F5 N5 N6
      k_steps
      rename Fr _ _ _ _ => F8
      rename News _ _ _ _ => N8
      rw [iteSame] at F8
      refine WhileStep.intro F8 N8 (n' := 2 * (es.length - (o + ds.length)) + (if ([] : List Int).length = 32 then 1 else 0)) ?_ ⟨_, rfl, o + ds.length, tk4, tc3, r6, n6, ts6, t6, ys2 ++ (zs2 ++ ds), [], [], k6, nw6, by rw [Int.natCast_add], rfl, off6, hat6, tr6, .nil, by simp, V6.level, V6.even, V6.room, by rw [List.append_nil, ← List.append_assoc, hxs, List.append_assoc, hdt], by omega, rfl⟩
      rw [if_neg (by simp)]
      refine mu_less hd2 ?_
      split <;> omega
    · rename ((vs3.length : Int) ≠ 32) => h32
      rename Fr _ _ _ _ => F5
      rename News _ _ _ _ => N5
      rw [iteSame] at F5
      have ho5 := vobj_eq (dx := dx) (tc := tc3) (r := r2) (sh := 5 * (n2 : Int)) (ts := ts2) (t := t2) (off := off) (to := to) (c := (ys2.length : Int) + zs2.length + ds.length) (c' := (ys2.length : Int) + ((zs2 ++ ds).length : Int)) (by simp; omega) rfl rfl
      rw [Option.some.inj ho5] at N5
      refine WhileStep.intro F5 N5 (n' := 2 * (es.length - (o + ds.length)) + (if (zs2 ++ ds).length = 32 then 1 else 0)) ?_ ⟨_, rfl, o + ds.length, tk4, tc3, r2, n2, ts2, t2, ys2, zs2 ++ ds, vs3, k3, nw2, by rw [Int.natCast_add], rfl, off2, hat2, tr2, hv3, by rw [List.length_append]; omega, hlv2, hev2, hrm2, by rw [← List.append_assoc, hxs, List.append_assoc, hdt], by omega, rfl⟩
      rw [List.length_append]
      refine mu_less hd2 ?_
      split <;> split <;> omega
  · rename Fr _ _ _ _ => F5
    rename News _ _ _ _ => N5
    have ho5 := (N5.get (.head _)).trans (vobj_eq (c' := (ys2.length : Int) + (zs2.length : Int)) (off' := (ys2.length : Int)) rfl rfl (by omega))
    have le5 := subLg F5 N5 (nw := nw2) (fun p hp => .tail _ (.tail _ hp))
    refine h _ _ (fun b o h1 h2 e => F5.keep b o ((Heap.hide_ne _ h2).trans ((Heap.hide_ne _ h1).trans e))) ⟨dx, tc2, r2, n2, ts2, t2, _, ys2, zs2, vs2, ⟨ho5, F5.keep _ _ hdb, tr2.mono le5, ⟨k2, N5.get (.tail _ (.head _))⟩, hv2, hz2, hlv2, hev2, hrm2⟩, ?_⟩ ⟨_, _, _, _, _, _, _, _, _, ho5, none_of_stay Sb hbt⟩
    rw [hxs, List.take_of_length_le (by omega)]
end
end
section
theorem fillF8 : (fun (_ : OpenLaw) (_ : Params → Frag) => True) PySem.Challenge.rw_nc0018_01 hd.heap_1 := by
  k_fill
  exact True.intro
section
variable {w : World} {A : Around} {E : Value → Shared → Prop} {s : Shared} {Q : Value → Shared → Prop} {mg mb : Str → Option Value} {p : Program} {loose : List Str}
local macro_rules | `(tactic| walk_at "ite") => `(tactic| first | with_reducible refine ite_tt ?_ | with_reducible refine ite_ff ?_)
theorem instLg {h₀ h : Heap} {L : Addr} {m : Str → Option Value} {news nw : List (Addr × Obj)} (F : Fr h₀ L h m) (N : News h₀ L h news) {a dx C : Addr} {sl : Array (Option Value)} {es : List DictEntry} {n : Nat} (ho : (a, (⟨.ref C, some dx, .plain, sl⟩ : Obj)) ∈ news) (hd : Lg h₀ nw dx (dictOf es n)) (sub : ∀ p ∈ nw, p ∈ news) :
    InstAt h a ⟨.ref C, some dx, .plain, sl⟩ C (some (dictOf es n)) := ⟨N.get ho, rfl, rfl, subLg F N sub _ _ hd⟩
theorem hide_hide (h : Heap) (a t : Addr) : ((h.hide a).hide t).get? a = none := by
  cases q : ((h.hide a).hide t).get? a with
  | none => rfl
  | some o => have := Heap.of_hide q; rw [Heap.hide_self] at this; cases this
theorem notLd {h₀ h : Heap} {L : Addr} {m : Str → Option Value} {x : Str} {v : Value} (F : Fr h₀ L h m) (hm : m x = some v) {b : Addr} (e : h.get? b = some (dictOf [] 0)) : b ≠ L := by
  rintro rfl
  obtain ⟨o, es, ep, ho, hd, _, hf⟩ := F.ns
  rw [e] at ho
  cases ho
  cases hd
  have := hf x
  rw [hm] at this
  cases this
local macro_rules | `(tactic| k_inst) => `(tactic| exact instLg (by k_asm) (by k_asm) (by k_mem) (by k_asm) (by intro p hp; k_ownIn))
theorem extend_spec {a q : Addr} {xs es : List Int} {qs : List Value} (X : (hd.heap_1 w.params).In s.heap) (T : TopRead p loose mg mb s.heap) (R : Room A 12) (V : PVec (At s.heap) a xs) (hq : Lst (At s.heap) q qs) (he : IntsAre qs es) (hbig : xs.length + es.length ≤ 1900)
    (h : ∀ h' tk a', Stay s.heap h' → PVec (At h') a' (xs ++ es) → (a' = a ∨ NTail s.heap h' a') → Q (.ref a') { s with heap := h', toks := tk }) : wpAny (model prg w) A (call (.ref 263) [.ref a, .ref q]) Q E s := by
  have PV := V
  obtain ⟨dx, tc, r, n, ts, t, to, ys, zs, vs, V, rfl⟩ := V
  have ho : s.heap.get? a = some (vobj dx ((ys.length : Int) + (zs.length : Int)) tc r (5 * (n : Int)) ts t ys.length to) := V.obj
  have hdd : s.heap.get? dx = some (dictOf [] 0) := V.dict
  have hl := hq.isList
  have hqe := he.length
  have hz : qs.length ≤ 1000000 := by omega
  rw [List.length_append] at hbig
  obtain ⟨hA, dp, fr, gd, un⟩ := A
  obtain rfl : hA = none := R.handled
  refine' enter (binds := [(Str.ofString "self", .ref a), (Str.ofString "obj", .ref q)]) X ?r T.nolimit ?k6 ?k7 ?k9 ?kB (s.heap) (Stay.refl _) (Nat.le_refl _) ?_ ?c5 ?c2 ?c3 ?c4
  (case r => have := R.depth; omega)
  (case k6 => k_dflt k_is)
  (case k7 => k_dflt k_is)
  (case k9 => first | exact BindsTo.of_eq rfl | exact binds_K X rfl (by k_dflt k_is) rfl rfl rfl)
  (case kB => exact locs rfl)
  (case c5 => decide)
  (case c2 => exact rfl)
  (case c3 => exact rfl)
  (case c4 => exact rfl)
  intro h₁ F S
  have N : News (s.heap) s.heap.objs.size h₁ [] := News.nil
  try dsimp only
  k_steps
  rename Fr _ _ _ _ => F1
  obtain ⟨kq, hq2⟩ := hq
  refine' kia_one (b := false) kitx_list (X.keeps F1.keep) ⟨_, F1.keep _ _ hq2, rfl⟩ ?ee (by intro q; cases q) ?_
  (case ee => k_dflt kit_is)
  intro tk9
  k_steps
  · rename (0 < es.length) => h0
    obtain ⟨e0, es', rfl⟩ := List.exists_cons_of_length_pos h0
    rename Fr _ _ _ _ => F1
    rename News _ _ _ _ => N1
    refine append_spec (X.keeps F1.keep) (T.keeps F1.keep) ((R.deeper _).less (by omega)) (PV.mono (Stay.le F1.keep)) (by rw [List.length_append]; omega) (fun h2 tk2 a2 S2 NV => ?_)
    obtain ⟨T2, dx2, tc2, r2, n2, ts2, t2, to2, ys2, zs2, vs2, V2, hx2, le2, nt2, na2, ht2n, ha2n⟩ := NV
    have F2 := frStay F1 S2
    obtain ⟨nw, Nw, off, U⟩ := full F2 [a2, t2]
    have tr2 : Tree (Lg s.heap nw) n2 (.ref r2) ys2 := V2.tree.monoL fun x its kk e => U x _ (le2 _ _ e) (notL F2 (le2 _ _ e)) (fun hm => by
      rcases List.mem_cons.mp hm with q | hm
      · exact na2 _ (q ▸ e)
      · exact nt2 _ (List.mem_singleton.mp hm ▸ e))
    obtain ⟨k2, htl⟩ := V2.tail
    have hdict := V2.dict
    have hob := V2.obj
    unfold At at htl hdict hob
    have hdx : Lg s.heap nw dx2 (dictOf [] 0) := U _ _ hdict (notLd F2 (x := Str.ofString "self") rfl hdict) (fun hm => by
      rcases List.mem_cons.mp hm with q | hm
      · rw [q, hob] at hdict; cases hdict
      · rw [List.mem_singleton.mp hm, htl] at hdict
        exact absurd (congrArg Obj.cls (Option.some.inj hdict)) (show Value.type "list" ≠ Value.type "dict" by decide))
    have N2 := newsAdd F1 (newsAdd F1 (newsApp (newsStay N1 S2) Nw) ht2n htl) ha2n hob
    simp only [List.cons_append, List.nil_append] at N2
    have hta : @Ne Nat a2 t2 := by
      intro e
      rw [← e, hob] at htl
      cases htl
    clear F1 N1 Nw U
    k_steps
    rename Fr _ _ _ _ => F3
    rename News _ _ _ _ => N3
    rename IntsAre _ (List.drop 1 _) => hI
    rename (_ < _ ∧ _ < _ ∧ _ ∧ AllLt _ _) => l3
    have hA := N3 _ (.tail _ (.head _))
    have hT := N3 _ (.tail _ (.tail _ (.head _)))
    have le3 := subLg F3 N3 (nw := nw) (fun p hp => .tail _ (.tail _ (.tail _ (.tail _ hp))))
    have Sg := hide_stay (hide_stay F3.keep hA.2.2) hT.2.2
    have hx3 := congrArg List.length hx2
    simp only [List.length_append, List.length_cons, List.length_nil] at hx3 hbig
    refine mut_extend_spec (T' := Lg s.heap nw) (X.keeps Sg) (T.keeps Sg) (fun b o e => Heap.of_hide (Heap.of_hide e)) (hide_hide _ _ _) (Heap.hide_self _ _) ((R.deeper _).less (by omega)) ⟨hA.1, le3 _ _ hdx, tr2, ⟨k2, hT.1⟩, V2.are, V2.full, V2.level, V2.even, V2.room⟩ le3 ?_ ?_ V2.full ⟨0, (Heap.hide_ne _ (Nat.ne_of_gt l3.2.1)).trans ((Heap.hide_ne _ (Nat.ne_of_gt l3.1)).trans (N3.get (.head _)))⟩ hI (by simp only [List.drop_succ_cons, List.drop_zero]; omega) (fun h4 tk4 SB PV4 NT4 => ?_)
    · rintro o (e | e)
      · rw [hT.2.2] at e; cases e
      · exact off _ e t2 (.tail _ (.head _)) rfl
    · rintro o (e | e)
      · rw [hA.2.2] at e; cases e
      · exact off _ e a2 (.head _) rfl
    · have F4 := frStayB2 F3 SB hA.2.2 hT.2.2 hA.2.1 hT.2.1
      have N4 : News s.heap s.heap.objs.size h4 [] := News.nil
      clear F3 N3
      k_steps
      rename Fr _ _ _ _ => F5
      refine h _ _ a2 F5.keep ?_ (.inr (NT4.less Sg))
      have : ys ++ zs ++ e0 :: es' = ys2 ++ zs2 ++ List.drop 1 (e0 :: es') := by rw [← hx2]; simp
      rw [this]
      exact PV4
  · rename (¬ 0 < es.length) => h0
    have : es = [] := List.length_eq_zero_iff.mp (by omega)
    subst this
    rename Fr _ _ _ _ => F1
    refine h _ _ a F1.keep ?_ (.inl rfl)
    rw [List.append_nil]
    exact PV.mono (Stay.le F1.keep)
end
end
section
theorem fillF9 : (fun (_ : OpenLaw) (_ : Params → Frag) => True) PySem.Challenge.rw_nc0018_01 hd.heap_1 := by
  k_fill
  exact True.intro
section
variable {w : World} {A : Around} {E : Value → Shared → Prop} {s : Shared} {Q : Value → Shared → Prop} {mg mb : Str → Option Value} {p : Program} {loose : List Str}
local macro_rules | `(tactic| walk_at "ite") => `(tactic| first | with_reducible refine ite_tt ?_ | with_reducible refine ite_ff ?_)
local macro_rules | `(tactic| k_inst) => `(tactic| exact instLg (by k_asm) (by k_asm) (by k_mem) (by k_asm) (by intro p hp; k_ownIn))
theorem extend_tup {a q : Addr} {xs es : List Int} {qs : List Value} (X : (hd.heap_1 w.params).In s.heap) (T : TopRead p loose mg mb s.heap) (R : Room A 12) (V : PVec (At s.heap) a xs) {kq : Nat} (hq2 : s.heap.get? q = some (tupOf qs kq)) (he : IntsAre qs es) (hbig : xs.length + es.length ≤ 1900)
    (h : ∀ h' tk a', Stay s.heap h' → PVec (At h') a' (xs ++ es) → (a' = a ∨ NTail s.heap h' a') → Q (.ref a') { s with heap := h', toks := tk }) : wpAny (model prg w) A (call (.ref 263) [.ref a, .ref q]) Q E s := by
  have PV := V
  obtain ⟨dx, tc, r, n, ts, t, to, ys, zs, vs, V, rfl⟩ := V
  have ho : s.heap.get? a = some (vobj dx ((ys.length : Int) + (zs.length : Int)) tc r (5 * (n : Int)) ts t ys.length to) := V.obj
  have hdd : s.heap.get? dx = some (dictOf [] 0) := V.dict
  have hl : IsTup s.heap q qs.toArray := ⟨_, hq2, rfl, kq, rfl⟩
  have hqe := he.length
  have hz : qs.length ≤ 1000000 := by omega
  rw [List.length_append] at hbig
  obtain ⟨hA, dp, fr, gd, un⟩ := A
  obtain rfl : hA = none := R.handled
  refine' enter (binds := [(Str.ofString "self", .ref a), (Str.ofString "obj", .ref q)]) X ?r T.nolimit ?k6 ?k7 ?k9 ?kB (s.heap) (Stay.refl _) (Nat.le_refl _) ?_ ?c5 ?c2 ?c3 ?c4
  (case r => have := R.depth; omega)
  (case k6 => k_dflt k_is)
  (case k7 => k_dflt k_is)
  (case k9 => first | exact BindsTo.of_eq rfl | exact binds_K X rfl (by k_dflt k_is) rfl rfl rfl)
  (case kB => exact locs rfl)
  (case c5 => decide)
  (case c2 => exact rfl)
  (case c3 => exact rfl)
  (case c4 => exact rfl)
  intro h₁ F S
  have N : News (s.heap) s.heap.objs.size h₁ [] := News.nil
  try dsimp only
  k_steps
  rename Fr _ _ _ _ => F1
  refine' kia_one (b := false) kitx_tuple (X.keeps F1.keep) ⟨_, F1.keep _ _ hq2, rfl⟩ ?ee (by intro q; cases q) ?_
  (case ee => k_dflt kit_is)
  intro tk9
  k_steps
  · rename (0 < es.length) => h0
    obtain ⟨e0, es', rfl⟩ := List.exists_cons_of_length_pos h0
    rename Fr _ _ _ _ => F1
    rename News _ _ _ _ => N1
    refine append_spec (X.keeps F1.keep) (T.keeps F1.keep) ((R.deeper _).less (by omega)) (PV.mono (Stay.le F1.keep)) (by rw [List.length_append]; omega) (fun h2 tk2 a2 S2 NV => ?_)
    obtain ⟨T2, dx2, tc2, r2, n2, ts2, t2, to2, ys2, zs2, vs2, V2, hx2, le2, nt2, na2, ht2n, ha2n⟩ := NV
    have F2 := frStay F1 S2
    obtain ⟨nw, Nw, off, U⟩ := full F2 [a2, t2]
    have tr2 : Tree (Lg s.heap nw) n2 (.ref r2) ys2 := V2.tree.monoL fun x its kk e => U x _ (le2 _ _ e) (notL F2 (le2 _ _ e)) (fun hm => by
      rcases List.mem_cons.mp hm with q | hm
      · exact na2 _ (q ▸ e)
      · exact nt2 _ (List.mem_singleton.mp hm ▸ e))
    obtain ⟨k2, htl⟩ := V2.tail
    have hdict := V2.dict
    have hob := V2.obj
    unfold At at htl hdict hob
    have hdx : Lg s.heap nw dx2 (dictOf [] 0) := U _ _ hdict (notLd F2 (x := Str.ofString "self") rfl hdict) (fun hm => by
      rcases List.mem_cons.mp hm with q | hm
      · rw [q, hob] at hdict; cases hdict
      · rw [List.mem_singleton.mp hm, htl] at hdict
        exact absurd (congrArg Obj.cls (Option.some.inj hdict)) (show Value.type "list" ≠ Value.type "dict" by decide))
    have N2 := newsAdd F1 (newsAdd F1 (newsApp (newsStay N1 S2) Nw) ht2n htl) ha2n hob
    simp only [List.cons_append, List.nil_append] at N2
    have hta : @Ne Nat a2 t2 := by
      intro e
      rw [← e, hob] at htl
      cases htl
    clear F1 N1 Nw U
    k_steps
    rename Fr _ _ _ _ => F3
    rename News _ _ _ _ => N3
    rename IntsAre _ (List.drop 1 _) => hI
    rename (_ < _ ∧ _ < _ ∧ _ ∧ AllLt _ _) => l3
    have hA := N3 _ (.tail _ (.head _))
    have hT := N3 _ (.tail _ (.tail _ (.head _)))
    have le3 := subLg F3 N3 (nw := nw) (fun p hp => .tail _ (.tail _ (.tail _ (.tail _ hp))))
    have Sg := hide_stay (hide_stay F3.keep hA.2.2) hT.2.2
    have hx3 := congrArg List.length hx2
    simp only [List.length_append, List.length_cons, List.length_nil] at hx3 hbig
    refine mut_extend_spec (T' := Lg s.heap nw) (X.keeps Sg) (T.keeps Sg) (fun b o e => Heap.of_hide (Heap.of_hide e)) (hide_hide _ _ _) (Heap.hide_self _ _) ((R.deeper _).less (by omega)) ⟨hA.1, le3 _ _ hdx, tr2, ⟨k2, hT.1⟩, V2.are, V2.full, V2.level, V2.even, V2.room⟩ le3 ?_ ?_ V2.full ⟨0, (Heap.hide_ne _ (Nat.ne_of_gt l3.2.1)).trans ((Heap.hide_ne _ (Nat.ne_of_gt l3.1)).trans (N3.get (.head _)))⟩ hI (by simp only [List.drop_succ_cons, List.drop_zero]; omega) (fun h4 tk4 SB PV4 NT4 => ?_)
    · rintro o (e | e)
      · rw [hT.2.2] at e; cases e
      · exact off _ e t2 (.tail _ (.head _)) rfl
    · rintro o (e | e)
      · rw [hA.2.2] at e; cases e
      · exact off _ e a2 (.head _) rfl
    · have F4 := frStayB2 F3 SB hA.2.2 hT.2.2 hA.2.1 hT.2.1
      have N4 : News s.heap s.heap.objs.size h4 [] := News.nil
      clear F3 N3
      k_steps
      rename Fr _ _ _ _ => F5
      refine h _ _ a2 F5.keep ?_ (.inr (NT4.less Sg))
      have : ys ++ zs ++ e0 :: es' = ys2 ++ zs2 ++ List.drop 1 (e0 :: es') := by rw [← hx2]; simp
      rw [this]
      exact PV4
  · rename (¬ 0 < es.length) => h0
    have : es = [] := List.length_eq_zero_iff.mp (by omega)
    subst this
    rename Fr _ _ _ _ => F1
    refine h _ _ a F1.keep ?_ (.inl rfl)
    rw [List.append_nil]
    exact PV.mono (Stay.le F1.keep)
theorem add_spec {a q : Addr} {xs es : List Int} {qs : List Value} {kq : Nat} (X : (hd.heap_1 w.params).In s.heap) (T : TopRead p loose mg mb s.heap) (R : Room A 14) (V : PVec (At s.heap) a xs) (hq2 : s.heap.get? q = some (tupOf qs kq)) (he : IntsAre qs es) (hbig : xs.length + es.length ≤ 1900)
    (h : ∀ h' tk a', Stay s.heap h' → PVec (At h') a' (xs ++ es) → (a' = a ∨ NTail s.heap h' a') → Q (.ref a') { s with heap := h', toks := tk }) : wpAny (model prg w) A (call (.ref 99) [.ref a, .ref q]) Q E s := by
  have PV := V
  obtain ⟨dx, tc, r, n, ts, t, to, ys, zs, vs, V, rfl⟩ := V
  have ho : s.heap.get? a = some (vobj dx ((ys.length : Int) + (zs.length : Int)) tc r (5 * (n : Int)) ts t ys.length to) := V.obj
  have hdd : s.heap.get? dx = some (dictOf [] 0) := V.dict
  obtain ⟨hA, dp, fr, gd, un⟩ := A
  obtain rfl : hA = none := R.handled
  refine' enter (binds := [(Str.ofString "self", .ref a), (Str.ofString "other", .ref q)]) X ?r T.nolimit ?k6 ?k7 ?k9 ?kB (s.heap) (Stay.refl _) (Nat.le_refl _) ?_ ?c5 ?c2 ?c3 ?c4
  (case r => have := R.depth; omega)
  (case k6 => k_dflt k_is)
  (case k7 => k_dflt k_is)
  (case k9 => first | exact BindsTo.of_eq rfl | exact binds_K X rfl (by k_dflt k_is) rfl rfl rfl)
  (case kB => exact locs rfl)
  (case c5 => decide)
  (case c2 => exact rfl)
  (case c3 => exact rfl)
  (case c4 => exact rfl)
  intro h₁ F S
  have N : News (s.heap) s.heap.objs.size h₁ [] := News.nil
  try dsimp only
  k_steps
  rename Fr _ _ _ _ => F1
  refine extend_tup (X.keeps F1.keep) (T.keeps F1.keep) ((R.deeper _).less (by omega)) (PV.mono (Stay.le F1.keep)) (F1.keep _ _ hq2) he hbig (fun h2 tk2 a2 S2 PV2 NT2 => ?_)
  exact h _ _ _ (Stay.trans F1.keep S2) PV2 (NT2.imp_right fun z => z.less F1.keep)
theorem empty_vec {h : Heap} (X : (hd.heap_1 w.params).In h) : PVec (At h) 318 [] := by
  have k1 : List.lookup 318 (hd.heap_1 w.params) = some (vobj 317 0 731 313 5 368 314 0 748) := by k_dflt k_is
  have k2 : List.lookup 317 (hd.heap_1 w.params) = some (dictOf [] 0) := by k_dflt k_is
  have k3 : List.lookup 313 (hd.heap_1 w.params) = some (listOf (List.toArray []) 0) := by k_dflt k_is
  have k4 : List.lookup 314 (hd.heap_1 w.params) = some (listOf (List.toArray []) 0) := by k_dflt k_is
  refine ⟨317, 731, 313, 1, 368, 314, 748, [], [], [], ⟨X _ _ k1, X _ _ k2, ⟨313, [], rfl, ⟨0, X _ _ k3⟩, ⟨Nat.zero_le _, ?_⟩, ?_⟩, ⟨0, X _ _ k4⟩, .nil, by simp, .inl rfl, rfl, Nat.zero_le _⟩, rfl⟩
  · show 0 * 32 < 0 + 32
    omega
  · intro i u hu; simp at hu
theorem pvector_list {q : Addr} {es : List Int} {qs : List Value} (X : (hd.heap_1 w.params).In s.heap) (T : TopRead p loose mg mb s.heap) (R : Room A 14) (hq : Lst (At s.heap) q qs) (he : IntsAre qs es) (hbig : es.length ≤ 1900)
    (h : ∀ h' tk a', Stay s.heap h' → PVec (At h') a' (es) → Q (.ref a') { s with heap := h', toks := tk }) : wpAny (model prg w) A (call (.ref 327) [.ref q]) Q E s := by
  obtain ⟨hA, dp, fr, gd, un⟩ := A
  obtain rfl : hA = none := R.handled
  refine' enter (binds := [(Str.ofString "iterable", .ref q)]) X ?r T.nolimit ?k6 ?k7 ?k9 ?kB (s.heap) (Stay.refl _) (Nat.le_refl _) ?_ ?c5 ?c2 ?c3 ?c4
  (case r => have := R.depth; omega)
  (case k6 => k_dflt k_is)
  (case k7 => k_dflt k_is)
  (case k9 => first | exact BindsTo.of_eq rfl | exact binds_K X rfl (by k_dflt k_is) rfl rfl rfl)
  (case kB => exact locs rfl)
  (case c5 => decide)
  (case c2 => exact rfl)
  (case c3 => exact rfl)
  (case c4 => exact rfl)
  intro h₁ F S
  have N : News (s.heap) s.heap.objs.size h₁ [] := News.nil
  try dsimp only
  have k1 : List.lookup 318 (hd.heap_1 w.params) = some (vobj 317 0 731 313 5 368 314 0 748) := by k_dflt k_is
  have k2 : List.lookup 317 (hd.heap_1 w.params) = some (dictOf [] 0) := by k_dflt k_is
  k_steps
  rename Fr _ _ _ _ => F1
  refine extend_spec (X.keeps F1.keep) (T.keeps F1.keep) ((R.deeper _).less (by omega)) (empty_vec (X.keeps F1.keep)) (hq.mono (Stay.le F1.keep)) he (by simpa using hbig) (fun h2 tk2 a2 S2 PV2 _ => ?_)
  exact h _ _ _ (Stay.trans F1.keep S2) PV2
theorem pvector_tup {q : Addr} {es : List Int} {qs : List Value} {kq : Nat} (X : (hd.heap_1 w.params).In s.heap) (T : TopRead p loose mg mb s.heap) (R : Room A 14) (hq2 : s.heap.get? q = some (tupOf qs kq)) (he : IntsAre qs es) (hbig : es.length ≤ 1900)
    (h : ∀ h' tk a', Stay s.heap h' → PVec (At h') a' (es) → Q (.ref a') { s with heap := h', toks := tk }) : wpAny (model prg w) A (call (.ref 327) [.ref q]) Q E s := by
  obtain ⟨hA, dp, fr, gd, un⟩ := A
  obtain rfl : hA = none := R.handled
  refine' enter (binds := [(Str.ofString "iterable", .ref q)]) X ?r T.nolimit ?k6 ?k7 ?k9 ?kB (s.heap) (Stay.refl _) (Nat.le_refl _) ?_ ?c5 ?c2 ?c3 ?c4
  (case r => have := R.depth; omega)
  (case k6 => k_dflt k_is)
  (case k7 => k_dflt k_is)
  (case k9 => first | exact BindsTo.of_eq rfl | exact binds_K X rfl (by k_dflt k_is) rfl rfl rfl)
  (case kB => exact locs rfl)
  (case c5 => decide)
  (case c2 => exact rfl)
  (case c3 => exact rfl)
  (case c4 => exact rfl)
  intro h₁ F S
  have N : News (s.heap) s.heap.objs.size h₁ [] := News.nil
  try dsimp only
  k_steps
  rename Fr _ _ _ _ => F1
  refine extend_tup (X.keeps F1.keep) (T.keeps F1.keep) ((R.deeper _).less (by omega)) (empty_vec (X.keeps F1.keep)) (F1.keep _ _ hq2) he (by simpa using hbig) (fun h2 tk2 a2 S2 PV2 _ => ?_)
  exact h _ _ _ (Stay.trans F1.keep S2) PV2
end
end
theorem bind_star {M : Model} {A : Around} {E : Value → Shared → Prop} {s : Shared} {Q : List (Str × Value) → Shared → Prop} {fd : FuncData} {va : Arg} {vs : List Value} (hp : fd.params = { posonlyargs := [], args := [], vararg := some va, kwonlyargs := [], kw_defaults := [], kwarg := none, defaults := [] }) (hd : fd.defaults = .none) (hk : fd.kwdefaults = .none) (hsz : vs.length ≤ sizeLine)
    (h : Q [(va.arg, .ref s.heap.objs.size)] { s with heap := s.heap.push (tupOf vs 0) }) : wpAny M A (bindArgs fd ⟨vs, []⟩) Q E s := by
  unfold bindArgs
  rw [hp, hd]
  simp only [List.map_nil, List.append_nil, List.zip_nil_left, List.length_nil, Option.isNone_some, Bool.and_false, Bool.false_eq_true, if_false]
  show wpAny M A (newTuple vs >>= fun t => pure [(va.arg, t)]) Q E s
  exact wpAny_bind (wpAny_newObj_type (wpAny_pure h) (by show vs.toArray.size ≤ sizeLine; rw [List.size_toArray]; exact hsz))
section
variable {w : World} {A : Around} {E : Value → Shared → Prop} {s : Shared} {Q : Value → Shared → Prop}
theorem enterStar {K : Frag} {f : Addr} {name qual : Str} {va : Arg} {body : List Stmt} {scope : Scope} {doc pm cdv ct oc : Value} {an od : Option Addr} {osl : Array (Option Value)} {vs : List Value}
    (X : K.In s.heap) (hroom : A.depth < recursionLimit) (hlim : s.heap.NoLimit)
    (ho : K.lookup f = some ⟨oc, od, .func (fnOf name qual { posonlyargs := [], args := [], vararg := some va, kwonlyargs := [], kw_defaults := [], kwarg := none, defaults := [] } body scope .none .none doc pm an cdv ct), osl⟩) (hcd : codeIn K cdv qual = true) (hsz : vs.length ≤ sizeLine)
    (hloc : scope.names.lookup va.arg = some .local)
    (h : ∀ h₁ q, Fr s.heap (s.heap.objs.size + 1) h₁ (fun y => [(va.arg, Value.ref q)].reverse.lookup y) → Stay s.heap h₁ → h₁.get? q = some (tupOf vs 0) → q ≠ s.heap.objs.size + 1 → s.heap.get? q = none →
      wpAny (model prg w) (A.deeper (envOf qual scope (s.heap.objs.size + 1) f cdv)) (execs body (envOf qual scope (s.heap.objs.size + 1) f cdv))
        (fun fl s' => Q (match fl with | .ret v => v | _ => .none) s') (fun _ _ => False)
        { s with heap := h₁, toks := s.toks + 1 })
    (hcell : ∀ x ∈ scope.names, x.2 ≠ .cell) (hco : scope.isCoroutine = false) (hgen : scope.isGenerator = false) (hk : scope.kind = .function) :
    wpAny (model prg w) A (call (.ref f) vs) Q E s := by
  refine wpAny_call ?_
  refine codeAny_call_function hroom (X _ _ ho) rfl hco hgen rfl (codeRec_of X hcd) ?_
  refine bind_star rfl rfl rfl hsz ?_
  have hnew : (s.heap.push (tupOf vs 0)).objs.size = s.heap.objs.size + 1 := Heap.size_push _ _
  have hq : (s.heap.push (tupOf vs 0)).get? s.heap.objs.size = some (tupOf vs 0) := Heap.get?_push_size _ rfl
  have up : Stay s.heap (s.heap.push (tupOf vs 0)) := fun b o e => Heap.get?_push_of_some _ e
  refine wpAny_newFunctionEnv hcell (by intro x hx; rw [List.mem_singleton.mp hx]; exact hloc) (fun h₀ hns₀ hsb₀ => ⟨(hlim.keeps up).fresh _ hsb₀, codeAny_func ?_⟩) hk
  have keep : Stay (s.heap.push (tupOf vs 0)) h₀ := fun b o e => hsb₀.extBut b o (Nat.ne_of_lt (Heap.lt_size e)) (Heap.get?_push_of_some _ e)
  rw [hnew] at hns₀
  have := h h₀ s.heap.objs.size ⟨hns₀, fun b o e => keep b o (up b o e), Nat.le_succ _⟩ (up.trans keep) (keep _ _ hq) (Nat.ne_of_lt (Nat.lt_succ_self _)) (by cases q : s.heap.get? s.heap.objs.size with | none => rfl | some o => exact absurd (Heap.lt_size q) (Nat.lt_irrefl _))
  rw [← hnew] at this
  exact wpAny_mono this (fun fl s' hl => hl) fun _ _ z => z.elim
theorem fillSt : (fun (_ : OpenLaw) (_ : Params → Frag) => True) PySem.Challenge.rw_nc0018_01 hd.heap_1 := by
  k_fill
  exact True.intro
theorem v_spec {mg mb : Str → Option Value} {p : Program} {loose : List Str} {es : List Int} {vs : List Value} (X : (hd.heap_1 w.params).In s.heap) (T : TopRead p loose mg mb s.heap) (R : Room A 16) (he : IntsAre vs es) (hbig : es.length ≤ 1900)
    (h : ∀ h' tk a', Stay s.heap h' → PVec (At h') a' es → Q (.ref a') { s with heap := h', toks := tk }) : wpAny (model prg w) A (call (.ref 334) vs) Q E s := by
  obtain ⟨hA, dp, fr, gd, un⟩ := A
  obtain rfl : hA = none := R.handled
  have hlen := he.length
  refine' enterStar X ?r T.nolimit ?k6 ?k7 (by rw [sizeLine_eq]; omega) ?kB ?_ ?c5 ?c2 ?c3 ?c4
  (case r => have := R.depth; omega)
  (case k6 => k_dflt k_is)
  (case k7 => k_dflt k_is)
  (case kB => exact rfl)
  (case c5 => decide)
  (case c2 => exact rfl)
  (case c3 => exact rfl)
  (case c4 => exact rfl)
  intro h₁ q F S hq hne hnew
  have N : News s.heap (s.heap.objs.size + 1) h₁ [(q, tupOf vs 0)] := fun p hp => by rw [List.mem_singleton.mp hp]; exact ⟨hq, hne, hnew⟩
  k_steps
  rename Fr _ _ _ _ => F1
  rename News _ _ _ _ => N1
  refine pvector_tup (X.keeps F1.keep) (T.keeps F1.keep) ((R.deeper _).less (by omega)) (N1.get (.head _)) he hbig (fun h2 tk2 a2 S2 PV2 => ?_)
  exact h _ _ _ (Stay.trans F1.keep S2) PV2
end
theorem fillF10 : (fun (_ : OpenLaw) (_ : Params → Frag) => True) PySem.Challenge.rw_nc0018_01 hd.heap_1 := by
  k_fill
  exact True.intro
section
variable {w : World} {A : Around} {E : Value → Shared → Prop} {s : Shared} {Q : Value → Shared → Prop} {mg mb : Str → Option Value} {p : Program} {loose : List Str}
/-- what stood, or is new -/
def Fsh (g h h' : Heap) : Lk := fun b o => g.get? b = some o ∨ (h.get? b = none ∧ h'.get? b = some o)
theorem fsh_le {g h h' : Heap} (S : Stay g h') : Le (Fsh g h h') (At h') := fun b o e => e.elim (S b o) fun e => e.2
theorem do_set0 {xs : List Int} {i x : Int} {ti tx tk0 : Tok} {v : Value} {a dx : Addr} {sl : Array (Option Value)} {g : Heap} (X : (hd.heap_1 w.params).In s.heap) (T : TopRead p loose mg mb s.heap) (R : Room A 1) (Sg : Stay g s.heap)
    (ho : s.heap.get? a = some ⟨.ref 303, some dx, .plain, sl⟩) (hdd : s.heap.get? dx = some (dictOf [] 0)) (ht : Tree (At g) 0 v xs) (hi : 0 ≤ i)
    (h : ∀ h' tk l, Stay s.heap h' → Tree (Fsh g s.heap h') 0 (.ref l) (xs.set (i % 32).toNat x) → Q (.ref l) { s with heap := h', toks := tk }) : wpAny (model prg w) A (call (.ref 204) [.ref a, .int 0 tk0, v, .int i ti, .int x tx]) Q E s := by
  obtain ⟨l, us, rfl, hl, hv, h32⟩ := ht
  have hlb := (hl.mono Sg.le).isList
  have hlen := hv.length
  have hz : us.length ≤ 1000000 := by omega
  obtain ⟨hA, dp, fr, gd, un⟩ := A
  obtain rfl : hA = none := R.handled
  refine' enter (binds := [(Str.ofString "self", .ref a), (Str.ofString "level", .int 0 tk0), (Str.ofString "node", .ref l), (Str.ofString "i", .int i ti), (Str.ofString "val", .int x tx)]) X ?r T.nolimit ?k6 ?k7 ?k9 ?kB (s.heap) (Stay.refl _) (Nat.le_refl _) ?_ ?c5 ?c2 ?c3 ?c4
  (case r => have := R.depth; omega)
  (case k6 => k_dflt k_is)
  (case k7 => k_dflt k_is)
  (case k9 => first | exact BindsTo.of_eq rfl | exact binds_K X rfl (by k_dflt k_is) rfl rfl rfl)
  (case kB => exact locs rfl)
  (case c5 => decide)
  (case c2 => exact rfl)
  (case c3 => exact rfl)
  (case c4 => exact rfl)
  intro h₁ F S
  have N : News (s.heap) s.heap.objs.size h₁ [] := News.nil
  try dsimp only
  k_steps
  rename Fr _ _ _ _ => F1
  rename News _ _ _ _ => N1
  exact h _ _ _ F1.keep ⟨_, us.set (i % 32).toNat (.int x tx), rfl, ⟨_, .inr ⟨N1.fresh (.head _), N1.get (.head _)⟩⟩, ints_set hv _, by simpa using h32⟩
theorem do_set1 {ys : List Int} {i x : Int} {ti tx tk0 : Tok} {v : Value} {j : Nat} {a dx : Addr} {sl : Array (Option Value)} {g : Heap} (X : (hd.heap_1 w.params).In s.heap) (T : TopRead p loose mg mb s.heap) (R : Room A 2) (Sg : Stay g s.heap)
    (ho : s.heap.get? a = some ⟨.ref 303, some dx, .plain, sl⟩) (hdd : s.heap.get? dx = some (dictOf [] 0)) (ht : Tree (At g) 1 v ys) (hi : 0 ≤ i) (hj : (j : Int) = i % 1024) (hjl : j < ys.length) (hyl : ys.length ≤ 4000)
    (h : ∀ h' tk l, Stay s.heap h' → Tree (Fsh g s.heap h') 1 (.ref l) (ys.set j x) → Q (.ref l) { s with heap := h', toks := tk }) : wpAny (model prg w) A (call (.ref 204) [.ref a, .int 5 tk0, v, .int i ti, .int x tx]) Q E s := by
  obtain ⟨l, us, rfl, hl, hb, hch⟩ := ht
  rw [sz_zero] at hb
  have hlb := (hl.mono Sg.le).isList
  have hz : us.length ≤ 1000000 := by omega
  have hk : (i / 32 % 32).toNat = j / 32 := by omega
  have hku : j / 32 < us.length := by omega
  obtain ⟨hA, dp, fr, gd, un⟩ := A
  obtain rfl : hA = none := R.handled
  refine' enter (binds := [(Str.ofString "self", .ref a), (Str.ofString "level", .int 5 tk0), (Str.ofString "node", .ref l), (Str.ofString "i", .int i ti), (Str.ofString "val", .int x tx)]) X ?r T.nolimit ?k6 ?k7 ?k9 ?kB (s.heap) (Stay.refl _) (Nat.le_refl _) ?_ ?c5 ?c2 ?c3 ?c4
  (case r => have := R.depth; omega)
  (case k6 => k_dflt k_is)
  (case k7 => k_dflt k_is)
  (case k9 => first | exact BindsTo.of_eq rfl | exact binds_K X rfl (by k_dflt k_is) rfl rfl rfl)
  (case kB => exact locs rfl)
  (case c5 => decide)
  (case c2 => exact rfl)
  (case c3 => exact rfl)
  (case c4 => exact rfl)
  intro h₁ F S
  have N : News (s.heap) s.heap.objs.size h₁ [] := News.nil
  try dsimp only
  k_steps
  obtain ⟨u, hu⟩ : ∃ u, us[j / 32]? = some u := ⟨_, List.getElem?_eq_getElem hku⟩
  rename Fr _ _ _ _ => F1
  refine item_base F1 hlb (by omega) (by omega) (by rw [hk]; exact hu) ?_
  k_steps
  rename Fr _ _ _ _ => F1
  rename News _ _ _ _ => N1
  refine do_set0 (g := g) (X.keeps F1.keep) (T.keeps F1.keep) (R.deeper _) (Sg.trans F1.keep) (F1.keep _ _ ho) (F1.keep _ _ hdd) (hch _ _ hu) hi (fun h2 tk2 l2 S2 tr2 => ?_)
  have F2 := frStay F1 S2
  have hD := N1 _ (.head _)
  obtain ⟨nw, Nw, off, U⟩ := full F2 [_]
  have tr4 := tr2.monoL (P' := Lg g nw) (fun b its kk e => e.elim .inl fun e => (U b _ e.2 (notL F2 e.2) (fun hm => by rw [List.mem_singleton.mp hm, hD.1] at e; cases e.1)).elim (fun z => by have := F1.keep _ _ z; rw [this] at e; cases e.1) .inr)
  have N2 := newsApp (newsStay N1 S2) Nw
  simp only [List.cons_append, List.nil_append] at N2
  clear F1 N1 Nw U
  k_steps
  rename Fr _ _ _ _ => F3
  rename News _ _ _ _ => N3
  refine h _ _ _ F3.keep ?_
  rw [hk] at N3
  refine Parts.tree (vs := us.set (j / 32) (.ref l2)) ((Parts.mono (P := At g) (fun b o e => .inl e) ⟨hb, hch⟩).set (j := j) ?_) ⟨_, .inr ⟨N3.fresh (.head _), N3.get (.head _)⟩⟩
  have hr : (i % 32).toNat = j % sz 0 := by rw [sz_zero]; omega
  rw [hr] at tr4
  exact tr4.mono (fun b o e => e.elim .inl fun e => .inr ⟨N3.fresh (.tail _ e), N3.get (.tail _ e)⟩)
theorem do_set2 {ys : List Int} {i x : Int} {ti tx tk0 : Tok} {v : Value} {j : Nat} {a dx : Addr} {sl : Array (Option Value)} {g : Heap} (X : (hd.heap_1 w.params).In s.heap) (T : TopRead p loose mg mb s.heap) (R : Room A 3) (Sg : Stay g s.heap)
    (ho : s.heap.get? a = some ⟨.ref 303, some dx, .plain, sl⟩) (hdd : s.heap.get? dx = some (dictOf [] 0)) (ht : Tree (At g) 2 v ys) (hi : 0 ≤ i) (hj : (j : Int) = i % 32768) (hjl : j < ys.length) (hyl : ys.length ≤ 4000)
    (h : ∀ h' tk l, Stay s.heap h' → Tree (Fsh g s.heap h') 2 (.ref l) (ys.set j x) → Q (.ref l) { s with heap := h', toks := tk }) : wpAny (model prg w) A (call (.ref 204) [.ref a, .int 10 tk0, v, .int i ti, .int x tx]) Q E s := by
  obtain ⟨l, us, rfl, hl, hb, hch⟩ := ht
  have s1 : sz 1 = 1024 := rfl
  rw [s1] at hb
  have hlb := (hl.mono Sg.le).isList
  have hz : us.length ≤ 1000000 := by omega
  have hk : (i / 1024 % 32).toNat = j / 1024 := by omega
  have hku : j / 1024 < us.length := by omega
  obtain ⟨hA, dp, fr, gd, un⟩ := A
  obtain rfl : hA = none := R.handled
  refine' enter (binds := [(Str.ofString "self", .ref a), (Str.ofString "level", .int 10 tk0), (Str.ofString "node", .ref l), (Str.ofString "i", .int i ti), (Str.ofString "val", .int x tx)]) X ?r T.nolimit ?k6 ?k7 ?k9 ?kB (s.heap) (Stay.refl _) (Nat.le_refl _) ?_ ?c5 ?c2 ?c3 ?c4
  (case r => have := R.depth; omega)
  (case k6 => k_dflt k_is)
  (case k7 => k_dflt k_is)
  (case k9 => first | exact BindsTo.of_eq rfl | exact binds_K X rfl (by k_dflt k_is) rfl rfl rfl)
  (case kB => exact locs rfl)
  (case c5 => decide)
  (case c2 => exact rfl)
  (case c3 => exact rfl)
  (case c4 => exact rfl)
  intro h₁ F S
  have N : News (s.heap) s.heap.objs.size h₁ [] := News.nil
  try dsimp only
  k_steps
  obtain ⟨u, hu⟩ : ∃ u, us[j / 1024]? = some u := ⟨_, List.getElem?_eq_getElem hku⟩
  rename Fr _ _ _ _ => F1
  refine item_base F1 hlb (by omega) (by omega) (by rw [hk]; exact hu) ?_
  k_steps
  rename Fr _ _ _ _ => F1
  rename News _ _ _ _ => N1
  refine do_set1 (g := g) (j := j % 1024) (X.keeps F1.keep) (T.keeps F1.keep) (R.deeper _) (Sg.trans F1.keep) (F1.keep _ _ ho) (F1.keep _ _ hdd) (hch _ _ hu) hi (by omega) (by rw [chunk_length, s1]; omega) (by rw [chunk_length, s1]; omega) (fun h2 tk2 l2 S2 tr2 => ?_)
  have F2 := frStay F1 S2
  have hD := N1 _ (.head _)
  obtain ⟨nw, Nw, off, U⟩ := full F2 [_]
  have tr4 := tr2.monoL (P' := Lg g nw) (fun b its kk e => e.elim .inl fun e => (U b _ e.2 (notL F2 e.2) (fun hm => by rw [List.mem_singleton.mp hm, hD.1] at e; cases e.1)).elim (fun z => by have := F1.keep _ _ z; rw [this] at e; cases e.1) .inr)
  have N2 := newsApp (newsStay N1 S2) Nw
  simp only [List.cons_append, List.nil_append] at N2
  clear F1 N1 Nw U
  k_steps
  rename Fr _ _ _ _ => F3
  rename News _ _ _ _ => N3
  refine h _ _ _ F3.keep ?_
  rw [hk] at N3
  refine Parts.tree (vs := us.set (j / 1024) (.ref l2)) ((Parts.mono (P := At g) (fun b o e => .inl e) ⟨hb, hch⟩).set (j := j) ?_) ⟨_, .inr ⟨N3.fresh (.head _), N3.get (.head _)⟩⟩
  exact tr4.mono (fun b o e => e.elim .inl fun e => .inr ⟨N3.fresh (.tail _ e), N3.get (.tail _ e)⟩)
end
section
theorem fillF11 : (fun (_ : OpenLaw) (_ : Params → Frag) => True) PySem.Challenge.rw_nc0018_01 hd.heap_1 := by
  k_fill
  exact True.intro
section
variable {w : World} {A : Around} {E : Value → Shared → Prop} {s : Shared} {Q : Value → Shared → Prop} {mg mb : Str → Option Value} {p : Program} {loose : List Str}
local macro_rules | `(tactic| walk_at "ite") => `(tactic| first | with_reducible refine ite_tt ?_ | with_reducible refine ite_ff ?_)
theorem do_set_spec {n : Nat} {ys : List Int} {i x : Int} {ti tx tk0 : Tok} {v : Value} {a dx : Addr} {sl : Array (Option Value)} (X : (hd.heap_1 w.params).In s.heap) (T : TopRead p loose mg mb s.heap) (R : Room A 3)
    (ho : s.heap.get? a = some ⟨.ref 303, some dx, .plain, sl⟩) (hdd : s.heap.get? dx = some (dictOf [] 0)) (ht : Tree (At s.heap) n v ys) (hn : n = 1 ∨ n = 2) (hi : 0 ≤ i) (hil : i.toNat < ys.length) (hyl : ys.length ≤ 4000) (hrm : ys.length ≤ sz n)
    (h : ∀ h' tk l, Stay s.heap h' → Tree (At h') n (.ref l) (ys.set i.toNat x) → Q (.ref l) { s with heap := h', toks := tk }) : wpAny (model prg w) A (call (.ref 204) [.ref a, .int (5 * (n : Int)) tk0, v, .int i ti, .int x tx]) Q E s := by
  have h' : ∀ h' tk l, Stay s.heap h' → Tree (Fsh s.heap s.heap h') n (.ref l) (ys.set i.toNat x) → Q (.ref l) { s with heap := h', toks := tk } := fun h' tk l S tr => h h' tk l S (tr.mono (fsh_le S))
  rcases hn with e | e
  · subst e
    have s1 : sz 1 = 1024 := rfl
    rw [s1] at hrm
    exact do_set1 X T (R.less (by omega)) (Stay.refl _) ho hdd ht hi (by omega) hil hyl h'
  · subst e
    exact do_set2 X T R (Stay.refl _) ho hdd ht hi (by omega) hil hyl h'
theorem tail_ix {y z j : Nat} (hy : y % 32 = 0) (hz : z ≤ 32) (h1 : y ≤ j) (h2 : j < y + z) : ((j : Int) % 32).toNat = j - y := by omega
theorem ints_set' {x : Int} {u : Tok} {vs : List Value} {ns : List Int} {k k' : Nat} (h : IntsAre vs ns) (e : k = k') : IntsAre (vs.set k (.int x u)) (ns.set k' x) := by rw [e]; exact ints_set h _
theorem set_spec {a : Addr} {xs : List Int} {i x : Int} {ti tx : Tok} {j : Nat} (X : (hd.heap_1 w.params).In s.heap) (T : TopRead p loose mg mb s.heap) (R : Room A 8) (V : PVec (At s.heap) a xs) (hbig : xs.length ≤ 2000) (hj : j < xs.length) (hi : i = (j : Int) ∨ i = (j : Int) - (xs.length : Int))
    (h : ∀ h' tk a', Stay s.heap h' → PVec (At h') a' (xs.set j x) → Q (.ref a') { s with heap := h', toks := tk }) : wpAny (model prg w) A (call (.ref 197) [.ref a, .int i ti, .int x tx]) Q E s := by
  obtain ⟨dx, tc, r, n, ts, t, to, ys, zs, vs, V, rfl⟩ := V
  have ho : s.heap.get? a = some (vobj dx ((ys.length : Int) + (zs.length : Int)) tc r (5 * (n : Int)) ts t ys.length to) := V.obj
  have hdd : s.heap.get? dx = some (dictOf [] 0) := V.dict
  have hl : s.heap.IsList t vs.toArray := V.tail.isList
  have hvz := V.are.length
  have hfull := V.full
  have hev := V.even
  have hrm := V.room
  have hz : vs.length ≤ 1000000 := by omega
  rw [List.length_append] at hbig hj hi
  obtain ⟨hA, dp, fr, gd, un⟩ := A
  obtain rfl : hA = none := R.handled
  refine' enter (binds := [(Str.ofString "self", .ref a), (Str.ofString "i", .int i ti), (Str.ofString "val", .int x tx)]) X ?r T.nolimit ?k6 ?k7 ?k9 ?kB (s.heap) (Stay.refl _) (Nat.le_refl _) ?_ ?c5 ?c2 ?c3 ?c4
  (case r => have := R.depth; omega)
  (case k6 => k_dflt k_is)
  (case k7 => k_dflt k_is)
  (case k9 => first | exact BindsTo.of_eq rfl | exact binds_K X rfl (by k_dflt k_is) rfl rfl rfl)
  (case kB => exact locs rfl)
  (case c5 => decide)
  (case c2 => exact rfl)
  (case c3 => exact rfl)
  (case c4 => exact rfl)
  intro h₁ F S
  have N : News (s.heap) s.heap.objs.size h₁ [] := News.nil
  try dsimp only
  k_steps
  · rename Fr _ _ _ _ => F1
    rename News _ _ _ _ => N1
    have hij : i + ((ys.length : Int) + (zs.length : Int)) = (j : Int) := by omega
    have hyj : ys.length ≤ j := by omega
    have hix := tail_ix hev hfull hyj hj
    rw [← hij] at hix
    refine mk_spec (X.keeps F1.keep) (T.keeps F1.keep) ((R.deeper _).less (by omega)) (Lst.isList ⟨_, N1.get (.head _)⟩) (by simp; omega) (fun h' tk' a' dx' to' S' hn ha hd' => ?_)
    have ha2 := ha.trans (vobj_eq (c' := (ys.length : Int) + ((zs.set (j - ys.length) x).length : Int)) (off' := (ys.length : Int)) (by simp) rfl (by simp; omega))
    refine h _ _ _ (Stay.trans F1.keep S') ⟨dx', _, r, n, ts, _, to', ys, zs.set (j - ys.length) x, _, ⟨ha2, hd', V.tree.mono (Stay.le (Stay.trans F1.keep S')), ⟨_, S' _ _ (N1.get (.head _))⟩, ints_set' V.are hix, by simpa using hfull, V.level, hev, hrm⟩, ?_⟩
    rw [List.set_append_right _ _ (by omega)]
  · rename Fr _ _ _ _ => F1
    rename News _ _ _ _ => N1
    clear hev hfull hrm
    refine do_set_spec (X.keeps F1.keep) (T.keeps F1.keep) ((R.deeper _).less (by omega)) (F1.keep _ _ ho) (F1.keep _ _ hdd) (V.tree.mono F1.keep) V.level (by omega) (by omega) (by omega) V.room (fun h2 tk2 l2 S2 tr2 => ?_)
    have F2 := frStay F1 S2
    obtain ⟨nw, N2, UT⟩ := fullT F2
    have tr3 := UT _ _ _ tr2
    rw [show Int.toNat (i + ((ys.length : Int) + (zs.length : Int))) = j by omega] at tr3
    clear F1 N1 tr2
    k_steps
    rename Fr _ _ _ _ => F3
    rename News _ _ _ _ => N3
    refine mk_spec (vs := vs) (X.keeps F3.keep) (T.keeps F3.keep) ((R.deeper _).less (by omega)) (hl.at fun o e => F3.keep _ _ e) hz (fun h' tk' a' dx' to' S' hn ha hd' => ?_)
    have ha2 := ha.trans (vobj_eq (c' := ((ys.set j x).length : Int) + (zs.length : Int)) (off' := ((ys.set j x).length : Int)) (by simp) rfl (by simp; omega))
    refine h _ _ _ (Stay.trans F3.keep S') ⟨dx', _, l2, n, ts, t, to', ys.set j x, zs, vs, ⟨ha2, hd', (tr3.mono (subLg F3 N3 fun _ hp => hp)).mono (Stay.le S'), (V.tail.mono F3.keep).mono (Stay.le S'), V.are, V.full, V.level, by simpa using V.even, by simpa using V.room⟩, ?_⟩
    rw [List.set_append_left _ _ (by omega)]
  · rename Fr _ _ _ _ => F1
    rename News _ _ _ _ => N1
    have hij : i = (j : Int) := by omega
    have hyj : ys.length ≤ j := by omega
    have hix := tail_ix hev hfull hyj hj
    rw [← hij] at hix
    refine mk_spec (X.keeps F1.keep) (T.keeps F1.keep) ((R.deeper _).less (by omega)) (Lst.isList ⟨_, N1.get (.head _)⟩) (by simp; omega) (fun h' tk' a' dx' to' S' hn ha hd' => ?_)
    have ha2 := ha.trans (vobj_eq (c' := (ys.length : Int) + ((zs.set (j - ys.length) x).length : Int)) (off' := (ys.length : Int)) (by simp) rfl (by simp; omega))
    refine h _ _ _ (Stay.trans F1.keep S') ⟨dx', _, r, n, ts, _, to', ys, zs.set (j - ys.length) x, _, ⟨ha2, hd', V.tree.mono (Stay.le (Stay.trans F1.keep S')), ⟨_, S' _ _ (N1.get (.head _))⟩, ints_set' V.are hix, by simpa using hfull, V.level, hev, hrm⟩, ?_⟩
    rw [List.set_append_right _ _ (by omega)]
  · rename Fr _ _ _ _ => F1
    rename News _ _ _ _ => N1
    clear hev hfull hrm
    refine do_set_spec (X.keeps F1.keep) (T.keeps F1.keep) ((R.deeper _).less (by omega)) (F1.keep _ _ ho) (F1.keep _ _ hdd) (V.tree.mono F1.keep) V.level (by omega) (by omega) (by omega) V.room (fun h2 tk2 l2 S2 tr2 => ?_)
    have F2 := frStay F1 S2
    obtain ⟨nw, N2, UT⟩ := fullT F2
    have tr3 := UT _ _ _ tr2
    rw [show Int.toNat i = j by omega] at tr3
    clear F1 N1 tr2
    k_steps
    rename Fr _ _ _ _ => F3
    rename News _ _ _ _ => N3
    refine mk_spec (vs := vs) (X.keeps F3.keep) (T.keeps F3.keep) ((R.deeper _).less (by omega)) (hl.at fun o e => F3.keep _ _ e) hz (fun h' tk' a' dx' to' S' hn ha hd' => ?_)
    have ha2 := ha.trans (vobj_eq (c' := ((ys.set j x).length : Int) + (zs.length : Int)) (off' := ((ys.set j x).length : Int)) (by simp) rfl (by simp; omega))
    refine h _ _ _ (Stay.trans F3.keep S') ⟨dx', _, l2, n, ts, t, to', ys.set j x, zs, vs, ⟨ha2, hd', (tr3.mono (subLg F3 N3 fun _ hp => hp)).mono (Stay.le S'), (V.tail.mono F3.keep).mono (Stay.le S'), V.are, V.full, V.level, by simpa using V.even, by simpa using V.room⟩, ?_⟩
    rw [List.set_append_left _ _ (by omega)]
end
end
theorem fillF12 : (fun (_ : OpenLaw) (_ : Params → Frag) => True) PySem.Challenge.rw_nc0018_01 hd.heap_1 := by
  k_fill
  exact True.intro
section
variable {w : World} {A : Around} {E : Value → Shared → Prop} {s : Shared} {Q : Value → Shared → Prop} {mg mb : Str → Option Value} {p : Program} {loose : List Str}
theorem getD_l {xs ys : List Int} {j : Nat} (h : j < xs.length) : (xs ++ ys).getD j 0 = xs.getD j 0 := by
  rw [List.getD_eq_getElem?_getD, List.getD_eq_getElem?_getD, List.getElem?_append_left h]
theorem getD_r {xs ys : List Int} {j : Nat} (h : xs.length ≤ j) : (xs ++ ys).getD j 0 = ys.getD (j - xs.length) 0 := by
  rw [List.getD_eq_getElem?_getD, List.getD_eq_getElem?_getD, List.getElem?_append_right h]
theorem chunk_getD {xs : List Int} {k i q : Nat} (hq : q < k) : (chunk xs k i).getD q 0 = xs.getD (i * k + q) 0 := by
  rw [List.getD_eq_getElem?_getD, List.getD_eq_getElem?_getD]
  unfold chunk
  rw [List.getElem?_take, if_pos hq, List.getElem?_drop]
theorem leaf_get {us : List Value} {ys : List Int} {j : Nat} (hi : IntsAre us (chunk ys (sz 0) (j / 32))) (hj : j < ys.length) : ∃ tk, us[j % 32]? = some (.int (ys.getD j 0) tk) := by
  rw [sz_zero] at hi
  have h1 : (chunk ys 32 (j / 32))[j % 32]? = some (ys.getD j 0) := by
    rw [List.getElem?_eq_getElem (by rw [chunk_length]; omega)]
    have := chunk_getD (xs := ys) (k := 32) (i := j / 32) (q := j % 32) (by omega)
    rw [show j / 32 * 32 + j % 32 = j by omega] at this
    rw [← this, List.getD_eq_getElem?_getD, List.getElem?_eq_getElem (by rw [chunk_length]; omega)]
    rfl
  exact hi.get _ _ h1
theorem node_for1 {a dx r t : Addr} {tc ts to ti : Tok} {ys zs : List Int} {vs : List Value} {j : Nat} (X : (hd.heap_1 w.params).In s.heap) (T : TopRead p loose mg mb s.heap) (R : Room A 2) (V : Vec (At s.heap) (At s.heap) a dx tc r 1 ts t (ys.length : Int) to ys zs vs) (hbig : ys.length ≤ 4000) (hj : j < ys.length + zs.length)
    (h : ∀ h' tk l us tk', Stay s.heap h' → Lst (At s.heap) l us → us.length ≤ 32 → us[j % 32]? = some (.int ((ys ++ zs).getD j 0) tk') → Q (.ref l) { s with heap := h', toks := tk }) : wpAny (model prg w) A (call (.ref 211) [.ref a, .int (j : Int) ti]) Q E s := by
  have ho : s.heap.get? a = some (vobj dx ((ys.length : Int) + (zs.length : Int)) tc r 5 ts t ys.length to) := V.obj
  have hdd : s.heap.get? dx = some (dictOf [] 0) := V.dict
  have hl : s.heap.IsList t vs.toArray := V.tail.isList
  have hvz := V.are.length
  have hfull := V.full
  have hev := V.even
  have hrm := V.room
  have hz : vs.length ≤ 1000000 := by omega
  obtain ⟨ws, hw, hp⟩ := tree_parts V.tree
  have hwl := hw.isList
  obtain ⟨hA, dp, fr, gd, un⟩ := A
  obtain rfl : hA = none := R.handled
  refine' enter (binds := [(Str.ofString "pvector_like", .ref a), (Str.ofString "i", .int (j : Int) ti)]) X ?r T.nolimit ?k6 ?k7 ?k9 ?kB (s.heap) (Stay.refl _) (Nat.le_refl _) ?_ ?c5 ?c2 ?c3 ?c4
  (case r => have := R.depth; omega)
  (case k6 => k_dflt k_is)
  (case k7 => k_dflt k_is)
  (case k9 => first | exact BindsTo.of_eq rfl | exact binds_K X rfl (by k_dflt k_is) rfl rfl rfl)
  (case kB => exact locs rfl)
  (case c5 => decide)
  (case c2 => exact rfl)
  (case c3 => exact rfl)
  (case c4 => exact rfl)
  intro h₁ F S
  have N : News (s.heap) s.heap.objs.size h₁ [] := News.nil
  try dsimp only
  k_steps
  · rename ((ys.length : Int) ≤ _) => hge
    rename Fr _ _ _ _ => F1
    have hm : j % 32 = j - ys.length := by omega
    have hzj : zs[j - ys.length]? = some (zs.getD (j - ys.length) 0) := by rw [List.getD_eq_getElem?_getD, List.getElem?_eq_getElem (by omega)]; rfl
    obtain ⟨tk', htk⟩ := V.are.get _ _ hzj
    refine h _ _ t vs tk' F1.keep V.tail (by omega) ?_
    rw [hm, htk, getD_r (by omega)]
  · rename (¬ (ys.length : Int) ≤ _) => hlt
    have hb := hp.1
    rw [sz_zero] at hb
    have s1 : sz 1 = 1024 := rfl
    rw [s1] at hrm
    have hk : ((j : Int) / 32 % 32).toNat = j / 32 := by omega
    obtain ⟨u, hu⟩ : ∃ u, ws[j / 32]? = some u := ⟨_, List.getElem?_eq_getElem (by omega)⟩
    obtain ⟨l, us, rfl, hl2, hi2, h32⟩ := hp.2 _ _ hu
    rename Fr _ _ _ _ => F1
    refine item_base F1 hwl (by omega) (by omega) (by rw [hk]; exact hu) ?_
    k_steps
    rename Fr _ _ _ _ => F3
    obtain ⟨tk', htk⟩ := leaf_get hi2 (by omega)
    refine h _ _ l us tk' F3.keep hl2 (by rw [hi2.length]; omega) ?_
    rw [htk, getD_l (by omega)]
theorem node_for2 {a dx r t : Addr} {tc ts to ti : Tok} {ys zs : List Int} {vs : List Value} {j : Nat} (X : (hd.heap_1 w.params).In s.heap) (T : TopRead p loose mg mb s.heap) (R : Room A 2) (V : Vec (At s.heap) (At s.heap) a dx tc r 2 ts t (ys.length : Int) to ys zs vs) (hbig : ys.length ≤ 4000) (hj : j < ys.length + zs.length)
    (h : ∀ h' tk l us tk', Stay s.heap h' → Lst (At s.heap) l us → us.length ≤ 32 → us[j % 32]? = some (.int ((ys ++ zs).getD j 0) tk') → Q (.ref l) { s with heap := h', toks := tk }) : wpAny (model prg w) A (call (.ref 211) [.ref a, .int (j : Int) ti]) Q E s := by
  have ho : s.heap.get? a = some (vobj dx ((ys.length : Int) + (zs.length : Int)) tc r 10 ts t ys.length to) := V.obj
  have hdd : s.heap.get? dx = some (dictOf [] 0) := V.dict
  have hl : s.heap.IsList t vs.toArray := V.tail.isList
  have hvz := V.are.length
  have hfull := V.full
  have hev := V.even
  have hrm := V.room
  have hz : vs.length ≤ 1000000 := by omega
  obtain ⟨ws, hw, hp⟩ := tree_parts V.tree
  have hwl := hw.isList
  obtain ⟨hA, dp, fr, gd, un⟩ := A
  obtain rfl : hA = none := R.handled
  refine' enter (binds := [(Str.ofString "pvector_like", .ref a), (Str.ofString "i", .int (j : Int) ti)]) X ?r T.nolimit ?k6 ?k7 ?k9 ?kB (s.heap) (Stay.refl _) (Nat.le_refl _) ?_ ?c5 ?c2 ?c3 ?c4
  (case r => have := R.depth; omega)
  (case k6 => k_dflt k_is)
  (case k7 => k_dflt k_is)
  (case k9 => first | exact BindsTo.of_eq rfl | exact binds_K X rfl (by k_dflt k_is) rfl rfl rfl)
  (case kB => exact locs rfl)
  (case c5 => decide)
  (case c2 => exact rfl)
  (case c3 => exact rfl)
  (case c4 => exact rfl)
  intro h₁ F S
  have N : News (s.heap) s.heap.objs.size h₁ [] := News.nil
  try dsimp only
  k_steps
  · rename ((ys.length : Int) ≤ _) => hge
    rename Fr _ _ _ _ => F1
    have hm : j % 32 = j - ys.length := by omega
    have hzj : zs[j - ys.length]? = some (zs.getD (j - ys.length) 0) := by rw [List.getD_eq_getElem?_getD, List.getElem?_eq_getElem (by omega)]; rfl
    obtain ⟨tk', htk⟩ := V.are.get _ _ hzj
    refine h _ _ t vs tk' F1.keep V.tail (by omega) ?_
    rw [hm, htk, getD_r (by omega)]
  · rename (¬ (ys.length : Int) ≤ _) => hlt
    have s1 : sz 1 = 1024 := rfl
    have hb := hp.1
    rw [s1] at hb
    have hk : ((j : Int) / 1024 % 32).toNat = j / 1024 := by omega
    obtain ⟨u, hu⟩ : ∃ u, ws[j / 1024]? = some u := ⟨_, List.getElem?_eq_getElem (by omega)⟩
    obtain ⟨l1, us1, rfl, hl1, hb1, hch1⟩ := hp.2 _ _ hu
    have hl1b := hl1.isList
    rename Fr _ _ _ _ => F1
    refine item_base F1 hwl (by omega) (by omega) (by rw [hk]; exact hu) ?_
    k_steps
    rw [sz_zero, chunk_length, s1] at hb1
    have hk2 : ((j : Int) / 32 % 32).toNat = j % 1024 / 32 := by omega
    obtain ⟨u2, hu2⟩ : ∃ u, us1[j % 1024 / 32]? = some u := ⟨_, List.getElem?_eq_getElem (by omega)⟩
    obtain ⟨l, us, rfl, hl2, hi2, h32⟩ := hch1 _ _ hu2
    rename Fr _ _ _ _ => F1
    refine item_base F1 hl1b (by omega) (by omega) (by rw [hk2]; exact hu2) ?_
    k_steps
    rename Fr _ _ _ _ => F3
    obtain ⟨tk', htk⟩ := leaf_get (ys := chunk ys 1024 (j / 1024)) (j := j % 1024) hi2 (by rw [chunk_length]; omega)
    refine h _ _ l us tk' F3.keep hl2 (by rw [hi2.length]; omega) ?_
    rw [show j % 32 = j % 1024 % 32 by omega, htk, getD_l (by omega), chunk_getD (by omega)]
    congr 3
    omega
end
theorem fillF13 : (fun (_ : OpenLaw) (_ : Params → Frag) => True) PySem.Challenge.rw_nc0018_01 hd.heap_1 := by
  k_fill
  exact True.intro
section
variable {w : World} {A : Around} {E : Value → Shared → Prop} {s : Shared} {Q : Value → Shared → Prop} {mg mb : Str → Option Value} {p : Program} {loose : List Str}
theorem node_for_spec {a dx r t : Addr} {n : Nat} {tc ts to ti : Tok} {ys zs : List Int} {vs : List Value} {j : Nat} (X : (hd.heap_1 w.params).In s.heap) (T : TopRead p loose mg mb s.heap) (R : Room A 2) (V : Vec (At s.heap) (At s.heap) a dx tc r n ts t (ys.length : Int) to ys zs vs) (hbig : ys.length ≤ 4000) (hj : j < ys.length + zs.length)
    (h : ∀ h' tk l us tk', Stay s.heap h' → Lst (At s.heap) l us → us.length ≤ 32 → us[j % 32]? = some (.int ((ys ++ zs).getD j 0) tk') → Q (.ref l) { s with heap := h', toks := tk }) : wpAny (model prg w) A (call (.ref 211) [.ref a, .int (j : Int) ti]) Q E s := by
  rcases V.level with e | e
  · subst e
    exact node_for1 X T R V hbig hj h
  · subst e
    exact node_for2 X T R V hbig hj h
theorem item_heap {value slice : PySem.Expr} {l : Addr} {ws : List Value} {k : Int} {u : Tok} {v : Value} (hL : s.heap.IsList l ws.toArray) (h0 : 0 ≤ k) (hhi : k < 2 ^ 63) (hx : ws[k.toNat]? = some v) (h : Q v s)
    (hs : subscripted slice false (.ref l) (.int k u) = operate [.ref l, .int k u] (getItem (.ref l) (.int k u)) := by with_unfolding_all rfl) :
    wpAny (model prg w) A (subscriptTail value slice (.ref l) (.int k u)) Q E s :=
  tail_any hL.typeIs slot_list_getitem.lookup (wpAny_getItem_list hL h0 hhi (by simpa using hx) h) hs
theorem getitem_spec {a : Addr} {xs : List Int} {j : Nat} {ti : Tok} (X : (hd.heap_1 w.params).In s.heap) (T : TopRead p loose mg mb s.heap) (R : Room A 4) (V : PVec (At s.heap) a xs) (hbig : xs.length ≤ 4000) (hj : j < xs.length)
    (h : ∀ h' tk tk', Stay s.heap h' → Q (.int (xs.getD j 0) tk') { s with heap := h', toks := tk }) : wpAny (model prg w) A (call (.ref 92) [.ref a, .int (j : Int) ti]) Q E s := by
  obtain ⟨dx, tc, r, n, ts, t, to, ys, zs, vs, V, rfl⟩ := V
  have ho : s.heap.get? a = some (vobj dx ((ys.length : Int) + (zs.length : Int)) tc r (5 * (n : Int)) ts t ys.length to) := V.obj
  have hdd : s.heap.get? dx = some (dictOf [] 0) := V.dict
  rw [List.length_append] at hbig hj
  obtain ⟨hA, dp, fr, gd, un⟩ := A
  obtain rfl : hA = none := R.handled
  refine' enter (binds := [(Str.ofString "self", .ref a), (Str.ofString "index", .int (j : Int) ti)]) X ?r T.nolimit ?k6 ?k7 ?k9 ?kB (s.heap) (Stay.refl _) (Nat.le_refl _) ?_ ?c5 ?c2 ?c3 ?c4
  (case r => have := R.depth; omega)
  (case k6 => k_dflt k_is)
  (case k7 => k_dflt k_is)
  (case k9 => first | exact BindsTo.of_eq rfl | exact binds_K X rfl (by k_dflt k_is) rfl rfl rfl)
  (case kB => exact locs rfl)
  (case c5 => decide)
  (case c2 => exact rfl)
  (case c3 => exact rfl)
  (case c4 => exact rfl)
  intro h₁ F S
  have N : News (s.heap) s.heap.objs.size h₁ [] := News.nil
  try dsimp only
  k_steps
  rename Fr _ _ _ _ => F1
  refine' kia_one (b := false) kitx_int (X.keeps F1.keep) trivial ?ee (by intro q; cases q) ?_
  (case ee => k_dflt kit_is)
  intro tk9
  k_steps
  rename Fr _ _ _ _ => F1
  rename News _ _ _ _ => N1
  refine node_for_spec (X.keeps F1.keep) (T.keeps F1.keep) ((R.deeper _).less (by omega)) (V.mono F1.keep F1.keep) (by omega) hj (fun h2 tk2 l us tk' S2 hl2 hu2 hx => ?_)
  have F2 := frStay F1 S2
  have N2 := newsStay N1 S2
  have hlist : h2.IsList l us.toArray := (hl2.mono S2.le).isList
  clear F1 N1
  k_steps
  refine item_heap hlist (by omega) (by omega) (by rw [show Int.toNat ((j : Int) % 32) = j % 32 by omega]; exact hx) ?_
  k_steps
  rename Fr _ _ _ _ => F3
  exact h _ _ _ F3.keep
end
section
theorem fillF14 : (fun (_ : OpenLaw) (_ : Params → Frag) => True) PySem.Challenge.rw_nc0018_01 hd.heap_1 := by
  k_fill
  exact True.intro
section
variable {w : World} {A : Around} {E : Value → Shared → Prop} {s : Shared} {Q : Value → Shared → Prop} {mg mb : Str → Option Value} {p : Program} {loose : List Str}
local macro_rules | `(tactic| walk_at "ite") => `(tactic| first | with_reducible refine ite_tt ?_ | with_reducible refine ite_ff ?_)
theorem seqIdx {j n : Nat} (h : j < n) : seqIndex? (j : Int) n = some j := by
  unfold seqIndex?
  have h1 : ¬ ((j : Int) < 0) := by omega
  simp [h1, h]
theorem ints_erase : ∀ {vs : List Value} {ns : List Int}, IntsAre vs ns → ∀ j : Nat, IntsAre (vs.eraseIdx j) (ns.eraseIdx j)
  | _, _, .nil, _ => by simpa using IntsAre.nil
  | _, _, .cons n t r, 0 => by simpa using r
  | _, _, .cons n t r, j + 1 => by simpa using IntsAre.cons n t (ints_erase r j)
theorem ios_spec {i : Int} {ti : Tok} (X : (hd.heap_1 w.params).In s.heap) (T : TopRead p loose mg mb s.heap) (R : Room A 1) (h : ∀ h' tk, Stay s.heap h' → Q (.int i ti) { s with heap := h', toks := tk }) : wpAny (model prg w) A (call (.ref 61) [.int i ti, .none]) Q E s := by
  obtain ⟨hA, dp, fr, gd, un⟩ := A
  obtain rfl : hA = none := R.handled
  refine' enter (binds := [(Str.ofString "index", .int i ti), (Str.ofString "stop", .none)]) X ?r T.nolimit ?k6 ?k7 ?k9 ?kB (s.heap) (Stay.refl _) (Nat.le_refl _) ?_ ?c5 ?c2 ?c3 ?c4
  (case r => have := R.depth; omega)
  (case k6 => k_dflt k_is)
  (case k7 => k_dflt k_is)
  (case k9 => first | exact BindsTo.of_eq rfl | exact binds_K X rfl (by k_dflt k_is) rfl rfl rfl)
  (case kB => exact locs rfl)
  (case c5 => decide)
  (case c2 => exact rfl)
  (case c3 => exact rfl)
  (case c4 => exact rfl)
  intro h₁ F S
  have N : News (s.heap) s.heap.objs.size h₁ [] := News.nil
  try dsimp only
  k_steps
  exact h _ _ (Fr.keep (by assumption))
theorem delete_spec {a : Addr} {xs : List Int} {j : Nat} {ti : Tok} (X : (hd.heap_1 w.params).In s.heap) (T : TopRead p loose mg mb s.heap) (R : Room A 16) (V : PVec (At s.heap) a xs) (hbig : xs.length ≤ 1800) (hj : j < xs.length)
    (h : ∀ h' tk a', Stay s.heap h' → PVec (At h') a' (xs.eraseIdx j) → Q (.ref a') { s with heap := h', toks := tk }) : wpAny (model prg w) A (call (.ref 292) [.ref a, .int (j : Int) ti]) Q E s := by
  have PV := V
  obtain ⟨dx, tc, r, n, ts, t, to, ys, zs, vs, V, rfl⟩ := V
  have ho : s.heap.get? a = some (vobj dx ((ys.length : Int) + (zs.length : Int)) tc r (5 * (n : Int)) ts t ys.length to) := V.obj
  have hdd : s.heap.get? dx = some (dictOf [] 0) := V.dict
  rw [List.length_append] at hbig hj
  obtain ⟨hA, dp, fr, gd, un⟩ := A
  obtain rfl : hA = none := R.handled
  refine' enter (binds := [(Str.ofString "self", .ref a), (Str.ofString "index", .int (j : Int) ti), (Str.ofString "stop", .none)]) X ?r T.nolimit ?k6 ?k7 ?k9 ?kB (s.heap) (Stay.refl _) (Nat.le_refl _) ?_ ?c5 ?c2 ?c3 ?c4
  (case r => have := R.depth; omega)
  (case k6 => k_dflt k_is)
  (case k7 => k_dflt k_is)
  (case k9 => first | exact BindsTo.of_eq rfl | exact binds_K X rfl (by k_dflt k_is) rfl rfl rfl)
  (case kB => exact locs rfl)
  (case c5 => decide)
  (case c2 => exact rfl)
  (case c3 => exact rfl)
  (case c4 => exact rfl)
  intro h₁ F S
  have N : News (s.heap) s.heap.objs.size h₁ [] := News.nil
  try dsimp only
  k_steps
  dsimp only [List.append_nil]
  rename Fr _ _ _ _ => F1
  rename News _ _ _ _ => N1
  refine tolist_spec (X.keeps F1.keep) (T.keeps F1.keep) ((R.deeper _).less (by omega)) (PV.mono (Stay.le F1.keep)) (by rw [List.length_append]; omega) (fun h2 tk2 l2 vs2 S2 H2 hi2 => ?_)
  obtain ⟨k2, F2, N2, ne2⟩ := after1 F1 N1 S2 H2
  have hlen2 := hi2.length
  rw [List.length_append] at hlen2
  clear F1 N1
  k_steps
  rename Fr _ _ _ _ => F3
  rename News _ _ _ _ => N3
  refine ios_spec (X.keeps F3.keep) (T.keeps F3.keep) ((R.deeper _).less (by omega)) (fun h4 tk4 S4 => ?_)
  have F4 := frStay F3 S4
  have N4 := newsStay N3 S4
  clear F3 N3
  k_steps
  rename Fr _ _ _ _ => F5
  rename News _ _ _ _ => N5
  refine delItem_head (k := j) (its := vs2.toArray) F5 N5 (by simp) (by unfold Builtin.List.listFitsIndex; simp only [Bool.and_eq_true, decide_eq_true_eq]; omega) (seqIdx (by rw [List.size_toArray]; omega)) (fun h6 F6 N6 => ?_) (by rw [sizeLine_eq]; simp; omega)
  clear F5 N5
  k_steps
  rename Fr _ _ _ _ => F7
  rename News _ _ _ _ => N7
  refine extend_spec (X.keeps F7.keep) (T.keeps F7.keep) ((R.deeper _).less (by omega)) (empty_vec (X.keeps F7.keep)) ⟨_, N7.get (.head _)⟩ (ints_erase hi2 j) (by rw [List.length_eraseIdx]; simp; split <;> omega) (fun h8 tk8 a8 S8 PV8 _ => ?_)
  exact h _ _ _ (Stay.trans F7.keep S8) PV8
end
end
section
open PySem PySem.W PySem.Calls PyProof.Rows Builtin
theorem kind_hasattr : builtinKind "hasattr" = none := by decide +kernel
theorem plain_hasattr : plainId "hasattr" = true := by decide +kernel
theorem entry_hasattr : entryFor table "hasattr" = some Builtin.«hasattr» := entryFor_of_tree (by kernel_rfl)
theorem args_hasattr (a b : Value) : argsOk "hasattr" ⟨[a, b], []⟩ := by unfold argsOk; kernel_rfl
theorem kind_opeq : builtinKind "_operator.eq" = none := by decide +kernel
theorem plain_opeq : plainId "_operator.eq" = true := by decide +kernel
theorem entry_opeq : entryFor table "_operator.eq" = some Builtin.«_operator.eq» := entryFor_of_tree (by kernel_rfl)
theorem args_opeq (a b : Value) : argsOk "_operator.eq" ⟨[a, b], []⟩ := by unfold argsOk; kernel_rfl
section
variable {prog : Program} {w : World} {A : Around} {E : Value → Shared → Prop} {s : Shared} {K : Frag} {x C f : Addr} {ox : Obj} {od : Obj} {name : Str} {Q : Value → Shared → Prop}
theorem call_opeq {a b : Value} (h : wpAny (model prog w) A.in1 (richCompare .Eq a b) Q E s) : wpAny (model prog w) A (call (.builtin "_operator.eq") [a, b]) Q E s := by
  refine call_function_entry kind_opeq plain_opeq entry_opeq (args_opeq _ _) ?_
  unfold Builtin.«_operator.eq»
  show wpAny _ _ (richCompare .Eq a b >>= fun v => ret v) _ _ _
  exact wpAny_bind (wpAny_mono h (fun v s' hv => wpAny_pure ⟨v, rfl, hv⟩) fun _ _ e => e)
theorem findObj_fnS {g : Value} (hh : (clsIn K C).any (fun cd => !cd.hasDict) = true) (ha : findIn K (.ref C) name = some (some (.ref f))) (hg : specialIn K (.ref f) "__get__" = some (some g)) (ht : takesIn K (.ref f) = some false) (hc : copiedNames.contains name = false) :
    findObj K C (some od) name = some (.bind g (.ref f)) := by
  obtain ⟨cd, hc', hd⟩ := any_some hh
  unfold findObj
  have ho : PySem.W.ownOf cd (some od) name = some none := by unfold PySem.W.ownOf; rw [if_neg (by simpa using hd)]
  rw [hc', Option.bind_some, ha, Option.bind_some]
  simp only [hg, ht, Option.bind_some, ho, hc, Bool.false_and, Bool.false_eq_true, if_false]
theorem getAttrByQ {h : Heap} {g : Array GenState} {d : Drawn} {tt : Nat} {os : OsState} {t : Tok} {Q : Option Value → Shared → Prop} (X : K.In h) (I : InstAt h x ox C (some od)) (hg : plainGet K C name = true) (hh : (clsIn K C).any (fun cd => !cd.hasDict) = true) (ha : findIn K (.ref C) name = some (some (.ref f))) (hf : isFn K (.ref f) = true)
    (hgf : specialIn K (.ref f) "__get__" = some (some (.builtin "function.__get__"))) (ht : takesIn K (.ref f) = some false) (hc : copiedNames.contains name = false)
    (hq : Q (some (.ref h.objs.size)) ⟨h.push (methodObj (.ref f) (.ref x)), g, d, tt, os⟩) :
    wpAny (model prog w) A (getAttrBy? (.ref x) (.str name t)) Q E ⟨h, g, d, tt, os⟩ := by
  have L0 := I.type (M := model prog w)
  have L1 := looks_findIn (M := model prog w) X (plainGet_of hg).1
  have Lf := looks_find (M := model prog w) X I (findObj_fnS (od := od) hh ha hgf ht hc)
  have L2 := looks_findIn (M := model prog w) X (plainGet_of hg).2
  unfold getAttrBy? getAttrBy
  refine wpAny_bind (wpAny_attempt (wpAny_holding (wpAny_bind (L0.at (wpAny_bind (L1.at ?_))))))
  show wpAny _ _ (getAttrEveryday _ _ _) _ _ _
  have fin : wpAny (model prog w) A.in1 (Builtin.«proto.getattr_hooked» ⟨[.ref x, .str name t], []⟩) (fun fin s' => match fin with | .done (.ret v) => v = .ref h.objs.size ∧ s' = ⟨h.push (methodObj (.ref f) (.ref x)), g, d, tt, os⟩ | _ => False) (fun _ _ => False) ⟨h, g, d, tt, os⟩ := by
    refine wpAny_bind (wpAny_pure (wpAny_bind (L0.at (wpAny_bind (Lf.at (wpAny_bind (L2.at ?_)))))))
    show wpAny _ _ (holding [.ref f] (call (.builtin "function.__get__") [.ref f, .ref x, .ref C]) >>= ret) _ _ _
    exact wpAny_bind (wpAny_holding (wpAny_call (fn_get X (beq_iff_eq.mp hf) (wpAny_pure ⟨rfl, rfl⟩))))
  refine wpAny_bind (wpAny_onRaise (wpAny_runValue (codeAny_builtin PySem.F.plainObj_entry_getattr_hooked (wpAny_mono fin (fun fin s' z => ?_) fun _ _ z => z.elim))))
  rcases fin with (v | _ | _ | _) | _ <;> first | exact z.elim | skip
  obtain ⟨rfl, rfl⟩ := z
  show wpAny _ _ (handedOut _) _ _ _
  rw [handedOut_of rfl]
  exact wpAny_pure (wpAny_pure hq)
theorem hasattr_meth {h : Heap} {g : Array GenState} {d : Drawn} {tt : Nat} {os : OsState} {t : Tok} (X : K.In h) (I : InstAt h x ox C (some od)) (hg : plainGet K C name = true) (hh : (clsIn K C).any (fun cd => !cd.hasDict) = true) (ha : findIn K (.ref C) name = some (some (.ref f))) (hf : isFn K (.ref f) = true)
    (hgf : specialIn K (.ref f) "__get__" = some (some (.builtin "function.__get__"))) (ht : takesIn K (.ref f) = some false) (hc : copiedNames.contains name = false) (hm : subIn K (.ref C) (.type "module") = some false)
    (hq : Q (.bool true) ⟨h.push (methodObj (.ref f) (.ref x)), g, d, tt, os⟩) :
    wpAny (model prog w) A (call (.builtin "hasattr") [.ref x, .str name t]) Q E ⟨h, g, d, tt, os⟩ := by
  have L0 := I.type (M := model prog w)
  have LM : Looks (model prog w) h (isInstance (.ref x) (.type "module")) false := L0.andThen (looks_subIn X hm)
  refine call_function_entry kind_hasattr plain_hasattr entry_hasattr (args_hasattr _ _) ?_
  unfold Builtin.«hasattr»
  repeat (first | (with_reducible refine getAttrByQ X I hg hh ha hf hgf ht hc ?_) | lk)
  exact ⟨_, rfl, hq⟩
end
end
theorem fillF15 : (fun (_ : OpenLaw) (_ : Params → Frag) => True) PySem.Challenge.rw_nc0018_01 hd.heap_1 := by
  k_fill
  exact True.intro
section
variable {w : World} {A : Around} {E : Value → Shared → Prop} {s : Shared} {Q : Value → Shared → Prop} {mg mb : Str → Option Value} {p : Program} {loose : List Str}
theorem roomUp {A A' : Around} {d e : Nat} (R : Room A d) (h1 : A'.depth + e ≤ A.depth + d) (h2 : A'.units + 8 * e ≤ A.units + 8 * d) (h3 : A'.handled = A.handled) : Room A' e :=
  ⟨by have := R.depth; omega, by have := R.units; omega, by rw [h3]; exact R.handled⟩
theorem hasattr_K {K : Frag} {x C f L : Addr} {ox : Obj} {od : Obj} {name : Str} {h₀ : Heap} {m : Str → Option Value} {news : List (Addr × Obj)} {t : Tok} (F : Fr h₀ L s.heap m) (X₀ : K.In h₀) (N : News h₀ L s.heap news) (I : InstAt s.heap x ox C (some od)) (hg : plainGet K C name = true) (hh : (clsIn K C).any (fun cd => !cd.hasDict) = true) (ha : findIn K (.ref C) name = some (some (.ref f))) (hf : isFn K (.ref f) = true)
    (hgf : specialIn K (.ref f) "__get__" = some (some (.builtin "function.__get__"))) (ht : takesIn K (.ref f) = some false) (hc : copiedNames.contains name = false) (hm : subIn K (.ref C) (.type "module") = some false)
    (h : ∀ q h', Fr h₀ L h' m → News h₀ L h' ((q, methodObj (.ref f) (.ref x)) :: news) → Q (.bool true) { s with heap := h' }) :
    wpAny (model prg w) A (call (.builtin "hasattr") [.ref x, .str name t]) Q E s := by
  obtain ⟨hh', g, d, tt, os⟩ := s
  exact hasattr_meth (X₀.keeps F.keep) I hg hh ha hf hgf ht hc hm (h _ _ (F.push _) (N.push F _))
theorem cmp_spec {a b : Addr} {xs : List Int} (X : (hd.heap_1 w.params).In s.heap) (T : TopRead p loose mg mb s.heap) (R : Room A 9) (V : PVec (At s.heap) a xs) (W : PVec (At s.heap) b xs) (hbig : xs.length ≤ 4000)
    (h : ∀ h' tk, Stay s.heap h' → Q (.bool true) { s with heap := h', toks := tk }) : wpAny (model prg w) A (call (.ref 54) [.ref a, .ref b, .builtin "_operator.eq"]) Q E s := by
  have PV := V
  obtain ⟨dx, tc, r, n, ts, t, to, ys, zs, vs, V, rfl⟩ := V
  have ho : s.heap.get? a = some (vobj dx ((ys.length : Int) + (zs.length : Int)) tc r (5 * (n : Int)) ts t ys.length to) := V.obj
  have hdd : s.heap.get? dx = some (dictOf [] 0) := V.dict
  have PW := W
  obtain ⟨dx2, tc2, r2, n2, ts2, t2, to2, ys2, zs2, vs2, W, hxs⟩ := W
  have ho2 : s.heap.get? b = some (vobj dx2 ((ys2.length : Int) + (zs2.length : Int)) tc2 r2 (5 * (n2 : Int)) ts2 t2 ys2.length to2) := W.obj
  have hdd2 : s.heap.get? dx2 = some (dictOf [] 0) := W.dict
  obtain ⟨hA, dp, fr, gd, un⟩ := A
  obtain rfl : hA = none := R.handled
  refine' enter (binds := [(Str.ofString "v", .ref a), (Str.ofString "other", .ref b), (Str.ofString "operator", .builtin "_operator.eq")]) X ?r T.nolimit ?k6 ?k7 ?k9 ?kB (s.heap) (Stay.refl _) (Nat.le_refl _) ?_ ?c5 ?c2 ?c3 ?c4
  (case r => have := R.depth; omega)
  (case k6 => k_dflt k_is)
  (case k7 => k_dflt k_is)
  (case k9 => first | exact BindsTo.of_eq rfl | exact binds_K X rfl (by k_dflt k_is) rfl rfl rfl)
  (case kB => exact locs rfl)
  (case c5 => decide)
  (case c2 => exact rfl)
  (case c3 => exact rfl)
  (case c4 => exact rfl)
  intro h₁ F S
  have N : News (s.heap) s.heap.objs.size h₁ [] := News.nil
  try dsimp only
  k_steps
  dsimp only [List.append_nil]
  rename Fr _ _ _ _ => F1
  rename News _ _ _ _ => N1
  refine tolist_spec (X.keeps F1.keep) (T.keeps F1.keep) ((R.deeper _).less (by omega)) (PV.mono (Stay.le F1.keep)) (by omega) (fun h2 tk2 l2 vs2 S2 H2 hi2 => ?_)
  obtain ⟨k2, F2, N2, ne2⟩ := after1 F1 N1 S2 H2
  clear F1 N1
  k_steps
  dsimp only [List.append_nil]
  rename Fr _ _ _ _ => F3
  rename News _ _ _ _ => N3
  refine tolist_spec (X.keeps F3.keep) (T.keeps F3.keep) ((R.deeper _).less (by omega)) (PW.mono (Stay.le F3.keep)) (by omega) (fun h4 tk4 l4 vs4 S4 H4 hi4 => ?_)
  obtain ⟨k4, F4, N4, ne4⟩ := after1 F3 N3 S4 H4
  clear F3 N3
  k_steps
  rename Fr _ _ _ _ => F5
  rename News _ _ _ _ => N5
  refine call_opeq (eq_intsK (Lst.isList ⟨_, N5.get (.tail _ (.head _))⟩) hi2 (Lst.isList ⟨_, N5.get (.head _)⟩) hi4 (by have := R.units; show un + 3 + 1 + 64 < cLine; dsimp only at this; omega) ?_)
  rw [decide_eq_true rfl]
  k_steps
  exact h _ _ F5.keep
theorem eq_spec {a b : Addr} {xs : List Int} (X : (hd.heap_1 w.params).In s.heap) (T : TopRead p loose mg mb s.heap) (R : Room A 12) (V : PVec (At s.heap) a xs) (W : PVec (At s.heap) b xs) (hbig : xs.length ≤ 4000)
    (h : ∀ h' tk, Stay s.heap h' → Q (.bool true) { s with heap := h', toks := tk }) : wpAny (model prg w) A (call (.ref 134) [.ref a, .ref b]) Q E s := by
  have PV := V
  obtain ⟨dx, tc, r, n, ts, t, to, ys, zs, vs, V, rfl⟩ := V
  have ho : s.heap.get? a = some (vobj dx ((ys.length : Int) + (zs.length : Int)) tc r (5 * (n : Int)) ts t ys.length to) := V.obj
  have hdd : s.heap.get? dx = some (dictOf [] 0) := V.dict
  have PW := W
  obtain ⟨dx2, tc2, r2, n2, ts2, t2, to2, ys2, zs2, vs2, W, hxs⟩ := W
  have ho2 : s.heap.get? b = some (vobj dx2 ((ys2.length : Int) + (zs2.length : Int)) tc2 r2 (5 * (n2 : Int)) ts2 t2 ys2.length to2) := W.obj
  have hdd2 : s.heap.get? dx2 = some (dictOf [] 0) := W.dict
  obtain ⟨hA, dp, fr, gd, un⟩ := A
  obtain rfl : hA = none := R.handled
  refine' enter (binds := [(Str.ofString "self", .ref a), (Str.ofString "other", .ref b)]) X ?r T.nolimit ?k6 ?k7 ?k9 ?kB (s.heap) (Stay.refl _) (Nat.le_refl _) ?_ ?c5 ?c2 ?c3 ?c4
  (case r => have := R.depth; omega)
  (case k6 => k_dflt k_is)
  (case k7 => k_dflt k_is)
  (case k9 => first | exact BindsTo.of_eq rfl | exact binds_K X rfl (by k_dflt k_is) rfl rfl rfl)
  (case kB => exact locs rfl)
  (case c5 => decide)
  (case c2 => exact rfl)
  (case c3 => exact rfl)
  (case c4 => exact rfl)
  intro h₁ F S
  have N : News (s.heap) s.heap.objs.size h₁ [] := News.nil
  try dsimp only
  k_steps
  rename Fr _ _ _ _ => F1
  rename News _ _ _ _ => N1
  by_cases hab : a = b
  · subst hab
    refine wpAny_is_ref_self ?_
    k_steps
    exact h _ _ F1.keep
  · refine wpAny_is_ref_other hab (F1.keep _ _ ho) (F1.keep _ _ ho2) (by intro e; cases e) ?_
    k_steps
    refine' hasattr_K F1 X N1 (instBase F1 ho2 hdd2) ?g1 ?g2 ?g3 ?g4 ?g5 ?g6 (by decide +kernel) ?g7 (fun q h2 F2 N2 => ?_)
    (case g1 => k_dflt k_is)
    (case g2 => kernel_rfl)
    (case g3 => k_dflt k_is)
    (case g4 => k_dflt k_is)
    (case g5 => k_dflt k_is)
    (case g6 => k_dflt k_is)
    (case g7 => k_dflt k_is)
    clear F1 N1
    k_steps
    rename Fr _ _ _ _ => F3
    rename News _ _ _ _ => N3
    refine len_spec (X.keeps F3.keep) (T.keeps F3.keep) (roomUp R (by dsimp only [Around.deeper, Around.in1]; omega) (by dsimp only [Around.deeper, Around.in1]; omega) rfl) (PW.mono (Stay.le F3.keep)) (fun h4 tk4 t4 S4 => ?_)
    have F4 := frStay F3 S4
    have N4 := newsStay N3 S4
    clear F3 N3
    have hxl := congrArg List.length hxs
    simp only [List.length_append] at hxl hbig
    k_steps
    refine ⟨⟨by omega, by simp only [List.length_append]; omega⟩, ?_⟩
    k_steps
    · rename Fr _ _ _ _ => F5
      refine cmp_spec (X.keeps F5.keep) (T.keeps F5.keep) ((R.deeper _).less (by omega)) (PV.mono (Stay.le F5.keep)) (PW.mono (Stay.le F5.keep)) (by simp only [List.length_append]; omega) (fun h6 tk6 S6 => ?_)
      have F6 := frStay F5 S6
      have N6 : News s.heap s.heap.objs.size h6 [] := News.nil
      k_steps
      exact h _ _ F6.keep
    · exfalso
      rename (_ ≠ _) => hne
      apply hne
      simp
end
theorem fillF16 : (fun (_ : OpenLaw) (_ : Params → Frag) => True) PySem.Challenge.rw_nc0018_01 hd.heap_1 := by
  k_fill
  exact True.intro
section
variable {w : World} {A : Around} {E : Value → Shared → Prop} {s : Shared} {Q : Value → Shared → Prop} {mg mb : Str → Option Value} {p : Program} {loose : List Str}
theorem size_spec {m : Int} {ti : Tok} (X : (hd.heap_1 w.params).In s.heap) (T : TopRead p loose mg mb s.heap) (R : Room A 2)
    (h : ∀ h' tk (z : Int) tk', Stay s.heap h' → 0 ≤ z → z ≤ 1060 → Q (.int z tk') { s with heap := h', toks := tk }) : wpAny (model prg w) A (call (.ref 341) [.int m ti]) Q E s := by
  obtain ⟨hA, dp, fr, gd, un⟩ := A
  obtain rfl : hA = none := R.handled
  refine' enter (binds := [(Str.ofString "number", .int m ti)]) X ?r T.nolimit ?k6 ?k7 ?k9 ?kB (s.heap) (Stay.refl _) (Nat.le_refl _) ?_ ?c5 ?c2 ?c3 ?c4
  (case r => have := R.depth; omega)
  (case k6 => k_dflt k_is)
  (case k7 => k_dflt k_is)
  (case k9 => first | exact BindsTo.of_eq rfl | exact binds_K X rfl (by k_dflt k_is) rfl rfl rfl)
  (case kB => exact locs rfl)
  (case c5 => decide)
  (case c2 => exact rfl)
  (case c3 => exact rfl)
  (case c4 => exact rfl)
  intro h₁ F S
  have N : News (s.heap) s.heap.objs.size h₁ [] := News.nil
  try dsimp only
  have f4 := Int.fmod_eq_emod_of_nonneg (m.fdiv 5) (b := 4) (by decide)
  have f6 := Int.fmod_eq_emod_of_nonneg (m.fdiv 5) (b := 6) (by decide)
  have f40 := Int.fmod_eq_emod_of_nonneg (m.fdiv 5) (b := 40) (by decide)
  have f1061 := Int.fmod_eq_emod_of_nonneg (m.fdiv 5) (b := 1061) (by decide)
  k_steps
  all_goals (rename Fr _ _ _ _ => F1; exact h _ _ _ _ F1.keep (by omega) (by omega))
end
section
open PySem PySem.W PySem.Calls PyProof.Rows Builtin Builtin.ObjectAttr Builtin.Getset_descriptor
/-- a tree kept for the hand -/
def Held {α : Type} (t : Sem α) : Sem α := t
theorem Held.mk {α : Type} {M : Model} {A : Around} {t : Sem α} {Q : α → Shared → Prop} {E : Value → Shared → Prop} {s : Shared} (h : wpAny M A (Held t) Q E s) : wpAny M A t Q E s := h
theorem held_gen {α : Type} {M : Model} {A : Around} {t : Sem α} {Q : α → Shared → Prop} {E : Value → Shared → Prop} {s : Shared} (h : ∀ T : Sem α, T = t → wpAny M A T Q E s) : wpAny M A t Q E s := h t rfl
theorem slot_slice_ga : Slot "slice" "__getattribute__" "slice.__getattribute__" := .of (owner := "slice") (n := "__getattribute__") (by rw [typeLookup_type, builtinLookup_eq_fast]; kernel_rfl) (by decide +kernel) (by decide +kernel) (by decide +kernel)
  (by first | exact .inl (by decide +kernel) | exact .inr (by decide +kernel)) (by rw [isSubtype_type]; kernel_rfl)
theorem entry_object_ga : entryFor table "slice.__getattribute__" = some Builtin.«object.__getattribute__» :=
  entryFor_alias (id' := "object.__getattribute__") (by kernel_rfl) (by decide +kernel) (by decide +kernel) (by kernel_rfl)
theorem args_object_ga (o a : Value) : argsOk "slice.__getattribute__" ⟨[o, a], []⟩ := by unfold argsOk; kernel_rfl
theorem entry_slice_start : entryFor table "slice.start" = some Builtin.«slice.start» := entryFor_of_tree (by kernel_rfl)
theorem look_slice_start : typeLookup (.type "slice") "start" = pure (some (.builtin "slice.start")) := by rw [typeLookup_type, builtinLookup_eq_fast]; kernel_rfl
section
variable {prog : Program} {w : World} {A : Around} {E : Value → Shared → Prop} {h : Heap} {g : Array GenState} {d : Drawn} {t : Nat} {os : OsState} {Q : Value → Shared → Prop}
theorem type_slice_start : ∀ {s : Shared}, s.TypeIs (.builtin "slice.start") "member_descriptor" := by intro s; show builtinType _ = _; rw [builtinType_eq_fast]; kernel_rfl
theorem mem_get {q : Addr} {i1 i2 tp : Value} {R : Result → Shared → Prop} (hq : h.get? q = some { cls := .type "slice", data := .fields #[i1, i2, .none] }) (hR : R (.ok (.ret i1)) ⟨h, g, d, t, os⟩) :
    codeAny (model prog w) A (.call (.builtin "member_descriptor.__get__") ⟨[.builtin "slice.start", .ref q, tp], []⟩) R ⟨h, g, d, t, os⟩ := by
  have f0 := looks_field (M := model prog w) hq 0 (v := i1) rfl
  have L0 : Looks (model prog w) h (typeOf (.ref q)) (.type "slice") := (Looks.ld hq).andThen .now
  refine codeAny_call_builtin KF.slot_mem.plain KF.entry_mem (KF.slot_mem.check _ _ _ _ _ _ _ _ type_slice_start (KF.args_mem _ _ _) ?_)
  unfold Builtin.«member_descriptor.__get__» descrGet
  rw [dga_obj]
  refine wpAny_bind (wpAny_pure ?_)
  unfold descrGetter descrCheckInstance descrNameAndClass isInstance
  repeat lk
  refine ⟨Code.quiet_builtin _ (by decide +kernel), codeAny_builtin entry_slice_start ?_⟩
  unfold Builtin.«slice.start»
  repeat lk
  exact hR
theorem slice_start {q : Addr} {i1 i2 : Value} (hq : h.get? q = some { cls := .type "slice", data := .fields #[i1, i2, .none] }) (hh : handedIn i1 = true) (hQ : Q i1 ⟨h, g, d, t + 1, os⟩) :
    wpAny (model prog w) A (getAttr (.ref q) "start" true) Q E ⟨h, g, d, t, os⟩ := by
  have hlk := slot_slice_ga.lookup
  have hT : ∀ t', (⟨h, g, d, t', os⟩ : Shared).TypeIs (.ref q) "slice" := fun _ => ⟨_, hq, rfl⟩
  unfold getAttr getAttrBy
  refine wpAny_bind (wpAny_mkText (wpAny_holding (wpAny_bind (wpAny_typeOf (hT _) (wpAny_bind (wpAny_of_eq hlk ?_))))))
  show wpAny _ _ (getAttrByItsOwn (.ref q) (.str "start" t) (.type "slice") (.builtin "slice.__getattribute__") true true) _ _ _
  unfold getAttrByItsOwn hookBefore callGetattribute boundAndCalled
  refine wpAny_bind (wpAny_of_eq (show (if onTheHeap (.type "slice") then typeLookup (.type "slice") "__getattr__" else pure none) = pure none from rfl) ?_)
  refine wpAny_bind (wpAny_attempt (wpAny_holding ?_))
  show wpAny _ _ (bindSpecial (.builtin "slice.__getattribute__") (.ref q) >>= _) _ _ _
  refine wpAny_bind (wpAny_of_eq (slot_slice_ga.bind _) ?_)
  refine wpAny_mono (Q := fun v s' => v = i1 ∧ s' = ⟨h, g, d, t + 1, os⟩) (E := fun _ _ => False)
    (wpAny_call_entry slot_slice_ga (hT _) entry_object_ga ?_ (args_object_ga _ _)) (fun v s' hv => ?_) fun _ _ z => z.elim
  · unfold Builtin.«object.__getattribute__»
    repeat (first | (with_reducible refine wpAny_typeOf (hT _) ?_) | lk)
    show wpAny _ _ (run (.call (.builtin "member_descriptor.__get__") ⟨[.builtin "slice.start", .ref q, .type "slice"], []⟩) none) _ _ _
    refine wpAny_run (mem_get (i1 := i1) (i2 := i2) hq ?_)
    exact wpAny_pure (wpAny_pure ⟨_, rfl, rfl, rfl⟩)
  · obtain ⟨rfl, rfl⟩ := hv
    show wpAny _ _ (handedOut _) _ _ _
    rw [handedOut_of hh]
    exact wpAny_pure hQ
end
end
section
theorem fillF17 : (fun (_ : OpenLaw) (_ : Params → Frag) => True) PySem.Challenge.rw_nc0018_01 hd.heap_1 := by
  k_fill
  exact True.intro
section
variable {w : World} {A : Around} {E : Value → Shared → Prop} {s : Shared} {Q : Value → Shared → Prop} {mg mb : Str → Option Value} {p : Program} {loose : List Str}
local macro_rules | `(tactic| walk_at "ite") => `(tactic| first | with_reducible refine ite_tt ?_ | with_reducible refine ite_ff ?_)
theorem slice_start_K {q : Addr} {i1 i2 : Value} {h₀ : Heap} {L : Addr} {m : Str → Option Value} (F : Fr h₀ L s.heap m) (hq : h₀.get? q = some { cls := .type "slice", data := .fields #[i1, i2, .none] }) (hh : handedIn i1 = true) (hQ : Q i1 { s with toks := s.toks + 1 }) :
    wpAny (model prg w) A (getAttr (.ref q) "start" true) Q E s := by
  have := F.keep _ _ hq
  obtain ⟨h, g, d, t, os⟩ := s
  exact slice_start this hh hQ
theorem sliceObj_list {value slice : Expr} {l q : Addr} {vs : List Value} {x y : Int} {tx ty : Tok} {h₀ : Heap} {L : Addr} {m : Str → Option Value} {news : List (Addr × Obj)} (F : Fr h₀ L s.heap m) (N : News h₀ L s.heap news) (hl : s.heap.IsList l vs.toArray) (hq : s.heap.get? q = some { cls := .type "slice", data := .fields #[.int x tx, .int y ty, .none] })
    (h : ∀ h', Fr h₀ L h' m → News h₀ L h' ((s.heap.objs.size, listOf (slicePick vs.toArray (some x) (some y) none) 0) :: news) → Q (.ref s.heap.objs.size) { s with heap := h' })
    (hs : subscripted slice false (.ref l) (.ref q) = operate [.ref l, .ref q] (getItem (.ref l) (.ref q)) := by with_unfolding_all rfl)
    (ht : ∀ r, letTemporaryGo value (.ref l) r = pure () := by intro _; with_unfolding_all rfl)
    (hsz : vs.toArray.size ≤ sizeLine) :
    wpAny (model prg w) A (subscriptTail value slice (.ref l) (.ref q)) Q E s :=
  subscriptTail_ops hl.typeIs list_getitem_lookup (wpAny_getItem_list_slice hl ⟨_, hq, rfl, rfl⟩ (.int _ _) (.int _ _) .none (by simp) (h _ (F.push _) (N.push F _)) hsz) hs ht
theorem isi_nestedX {T : String} {v : Value} {dep : Int} {tk : Tok} {Q : Fin → Shared → Prop} {M : Model} (ht : Looks M s.heap (typeOf v) (.type T)) (h : Q (.done (.ret (.bool true))) s) :
    wpAny M A (Builtin.«isinstance.nested» ⟨[v, .type T, .int dep tk], []⟩) Q E s := by
  obtain ⟨hh, g, d, tt, os⟩ := s
  unfold Builtin.«isinstance.nested»
  refine wpAny_bind (ht.at ?_)
  rw [if_pos (by simp)]
  exact wpAny_bind (wpAny_rule (wpAny_bind (wpAny_pure (wpAny_pure h))))
theorem isi_exact {T : String} {v : Value} (ht : ∀ M, Looks M s.heap (typeOf v) (.type T)) (hx : v ≠ .builtin "__main__.__loader__#opaque") (h : Q (.bool true) s) :
    wpAny (model prg w) A (call (.builtin "isinstance") [v, .type T]) Q E s :=
  call_isinstance (S := fun _ R s => (∀ M, Looks M s.heap (typeOf v) (.type T)) ∧ R (.ok (.ret (.bool true))) s) (fun _ _ _ _ _ hs => isinstance_outer (isi_nestedX (hs.1 _) hs.2) hx) ⟨ht, h⟩
theorem getslice_spec {a q : Addr} {xs : List Int} {i1 i2 : Int} {t1 t2 : Tok} (X : (hd.heap_1 w.params).In s.heap) (T : TopRead p loose mg mb s.heap) (R : Room A 16) (V : PVec (At s.heap) a xs) (hbig : xs.length ≤ 1800) (hq : s.heap.get? q = some { cls := .type "slice", data := .fields #[.int i1 t1, .int i2 t2, .none] }) (g1 : 0 ≤ i1) (g2 : i1 ≤ i2) (g3 : i2 ≤ xs.length)
    (h : ∀ h' tk a', Stay s.heap h' → PVec (At h') a' ((xs.drop i1.toNat).take (i2.toNat - i1.toNat)) → Q (.ref a') { s with heap := h', toks := tk }) : wpAny (model prg w) A (call (.ref 92) [.ref a, .ref q]) Q E s := by
  have PV := V
  obtain ⟨dx, tc, r, n, ts, t, to, ys, zs, vs, V, rfl⟩ := V
  have ho : s.heap.get? a = some (vobj dx ((ys.length : Int) + (zs.length : Int)) tc r (5 * (n : Int)) ts t ys.length to) := V.obj
  have hdd : s.heap.get? dx = some (dictOf [] 0) := V.dict
  rw [List.length_append] at hbig g3
  obtain ⟨hA, dp, fr, gd, un⟩ := A
  obtain rfl : hA = none := R.handled
  refine' enter (binds := [(Str.ofString "self", .ref a), (Str.ofString "index", .ref q)]) X ?r T.nolimit ?k6 ?k7 ?k9 ?kB (s.heap) (Stay.refl _) (Nat.le_refl _) ?_ ?c5 ?c2 ?c3 ?c4
  (case r => have := R.depth; omega)
  (case k6 => k_dflt k_is)
  (case k7 => k_dflt k_is)
  (case k9 => first | exact BindsTo.of_eq rfl | exact binds_K X rfl (by k_dflt k_is) rfl rfl rfl)
  (case kB => exact locs rfl)
  (case c5 => decide)
  (case c2 => exact rfl)
  (case c3 => exact rfl)
  (case c4 => exact rfl)
  intro h₁ F S
  have N : News (s.heap) s.heap.objs.size h₁ [] := News.nil
  try dsimp only
  k_steps
  rename Fr _ _ _ _ => F1
  refine isi_exact (fun M => (Looks.ld (F1.keep _ _ hq)).andThen .now) (by intro q; cases q) ?_
  k_steps
  rename Fr _ _ _ _ => F1
  refine slice_start_K F1 hq rfl ?_
  k_steps
  dsimp only [List.append_nil]
  rename Fr _ _ _ _ => F1
  rename News _ _ _ _ => N1
  refine tolist_spec (X.keeps F1.keep) (T.keeps F1.keep) ((R.deeper _).less (by omega)) (PV.mono (Stay.le F1.keep)) (by rw [List.length_append]; omega) (fun h2 tk2 l2 vs2 S2 H2 hi2 => ?_)
  obtain ⟨k2, F2, N2, ne2⟩ := after1 F1 N1 S2 H2
  have hlen2 := hi2.length
  rw [List.length_append] at hlen2
  clear F1 N1
  k_steps
  rename Fr _ _ _ _ => F3
  rename News _ _ _ _ => N3
  refine sliceObj_list F3 N3 (Lst.isList ⟨_, N3.get (.head _)⟩) (F3.keep _ _ hq) (fun h4 F4 N4 => ?_) (hsz := by rw [sizeLine_eq, List.size_toArray]; omega)
  have hsl := slice_ints hi2 g1 g2 (by rw [List.length_append]; omega)
  clear F3 N3
  k_steps
  rename Fr _ _ _ _ => F5
  rename News _ _ _ _ => N5
  refine extend_spec (X.keeps F5.keep) (T.keeps F5.keep) ((R.deeper _).less (by omega)) (empty_vec (X.keeps F5.keep)) (qs := (slicePick vs2.toArray (some i1) (some i2) none).toList) ⟨0, by rw [Array.toArray_toList]; exact N5.get (.head _)⟩ hsl (by simp only [List.length_take, List.length_drop, List.length_append, List.length_nil]; omega) (fun h8 tk8 a8 S8 PV8 _ => ?_)
  rw [show (i2 - i1).toNat = i2.toNat - i1.toNat by omega] at PV8
  exact h _ _ _ (Stay.trans F5.keep S8) PV8
end
end
section
theorem fillF18 : (fun (_ : OpenLaw) (_ : Params → Frag) => True) PySem.Challenge.rw_nc0018_01 hd.heap_1 := by
  k_fill
  exact True.intro
section
variable {w : World} {A : Around} {E : Value → Shared → Prop} {s : Shared} {Q : Value → Shared → Prop} {mg mb : Str → Option Value} {p : Program} {loose : List Str}
local macro_rules | `(tactic| walk_at "ite") => `(tactic| first | with_reducible refine ite_tt ?_ | with_reducible refine ite_ff ?_)
local macro_rules | `(tactic| walk_at "exec For Name List cons nil") => `(tactic| (k_here; refine held_gen ?_; intro T9 hT9))
local macro_rules | `(tactic| walk_at "pyIter ref") => `(tactic| (k_here; refine held_gen ?_; intro T9 hT9))
local macro_rules | `(tactic| walk_at "compareOp NotEq ref ref") => `(tactic| (k_here; refine held_gen ?_; intro T9 hT9))
theorem allNe_mem {d : Nat} {l : List (Addr × Obj)} (h : AllNe d l) : ∀ p ∈ l, p.1 ≠ d := by
  induction l with
  | nil => intro p hp; cases hp
  | cons q r ih =>
    intro p hp
    obtain ⟨h1, h2⟩ := h
    rcases List.mem_cons.mp hp with rfl | hp
    · exact h1
    · exact ih h2 p hp
theorem int8 {v : Value} {i : Nat} {a1 a2 a3 a4 a5 a6 a7 a8 : Int} {t1 t2 t3 t4 t5 t6 t7 t8 : Tok} (h : [Value.int a1 t1, .int a2 t2, .int a3 t3, .int a4 t4, .int a5 t5, .int a6 t6, .int a7 t7, .int a8 t8][i]? = some v) : ∃ z tz, v = .int z tz := by
  have := List.mem_of_getElem? h
  simp only [List.mem_cons, List.not_mem_nil, or_false] at this
  rcases this with e | e | e | e | e | e | e | e <;> exact ⟨_, _, e⟩
theorem holds_spec {a l : Addr} {xs : List Int} {qs : List Value} (X : (hd.heap_1 w.params).In s.heap) (T : TopRead p loose mg mb s.heap) (R : Room A 16) (V : PVec (At s.heap) a xs) (hbig : xs.length ≤ 1800) (hq : Lst (At s.heap) l qs) (he : IntsAre qs xs)
    (h : ∀ h' tk, Stay s.heap h' → Q (.bool true) { s with heap := h', toks := tk }) : wpAny (model prg w) A (call (.ref 348) [.ref a, .ref l]) Q E s := by
  have PV := V
  obtain ⟨dx, tc, r, n, ts, t, to, ys, zs, vs, V, rfl⟩ := V
  have ho : s.heap.get? a = some (vobj dx ((ys.length : Int) + (zs.length : Int)) tc r (5 * (n : Int)) ts t ys.length to) := V.obj
  have hdd : s.heap.get? dx = some (dictOf [] 0) := V.dict
  have hl := hq.isList
  have hqe := he.length
  have hz : qs.length ≤ 1000000 := by omega
  obtain ⟨hA, dp, fr, gd, un⟩ := A
  obtain rfl : hA = none := R.handled
  refine' enter (binds := [(Str.ofString "vector", .ref a), (Str.ofString "row", .ref l)]) X ?r T.nolimit ?k6 ?k7 ?k9 ?kB (s.heap) (Stay.refl _) (Nat.le_refl _) ?_ ?c5 ?c2 ?c3 ?c4
  (case r => have := R.depth; omega)
  (case k6 => k_dflt k_is)
  (case k7 => k_dflt k_is)
  (case k9 => first | exact BindsTo.of_eq rfl | exact binds_K X rfl (by k_dflt k_is) rfl rfl rfl)
  (case kB => exact locs rfl)
  (case c5 => decide)
  (case c2 => exact rfl)
  (case c3 => exact rfl)
  (case c4 => exact rfl)
  intro h₁ F S
  have N : News (s.heap) s.heap.objs.size h₁ [] := News.nil
  try dsimp only
  have hxl := hbig
  simp only [List.length_append] at hxl
  k_steps
  rename Fr _ _ _ _ => F3
  rename News _ _ _ _ => N3
  refine len_spec (X.keeps F3.keep) (T.keeps F3.keep) (roomUp R (by dsimp only [Around.deeper, Around.in1]; omega) (by dsimp only [Around.deeper, Around.in1]; omega) rfl) (PV.mono (Stay.le F3.keep)) (fun h4 tk4 t4 S4 => ?_)
  have F4 := frStay F3 S4
  have N4 := newsStay N3 S4
  clear F3 N3
  k_steps
  refine ⟨⟨by omega, by simp only [List.length_append]; omega⟩, ?_⟩
  k_steps
  · exfalso
    rename (_ ≠ _) => hne
    exact hne (by rw [hqe])
  dsimp only [List.append_nil]
  rename Fr _ _ _ _ => F5
  rename News _ _ _ _ => N5
  refine tolist_spec (X.keeps F5.keep) (T.keeps F5.keep) ((R.deeper _).less (by omega)) (PV.mono (Stay.le F5.keep)) (by omega) (fun h6 tk6 l6 vs6 S6 H6 hi6 => ?_)
  obtain ⟨k6, F6, N6, ne6⟩ := after1 F5 N5 S6 H6
  clear F5 N5
  k_steps
  rename (_ = compareOp _ _ _) => hT9
  subst hT9
  rename Fr _ _ _ _ => F7
  rename News _ _ _ _ => N7
  refine ne_intsK (Lst.isList ⟨_, N7.get (.head _)⟩) hi6 (hl.at fun o e => F7.keep _ _ e) he (by have := R.units; show un + 3 + 64 < cLine; dsimp only at this; omega) ?_
  rw [decide_eq_true rfl, Bool.not_true]
  k_steps
  rename (_ = exec _ _) => hT9
  subst hT9
  refine For_invVF F7 rfl rfl ?_
  k_steps
  rename (_ = pyIter _) => hT9
  subst hT9
  rename Fr _ _ _ _ => F8
  rename News _ _ _ _ => N8
  refine iter_ledM (k := 0) (fun i nx => nx = _) rfl (fun _ _ e => by rw [e]; exact .inr (.head _)) F8 N8 rfl ?_ ?_
  · rintro i v nx h9 tk9 I o hv rfl ne F9 N9
    obtain ⟨z, tz, rfl⟩ := int8 hv
    clear F8 N8 hv
    have neI := allNe_mem ne
    simp only [AllNe, and_true] at ne
    k_steps
    · rename (0 ≤ z) => hz0
      rename (z < _) => hz1
      obtain ⟨j, rfl⟩ : ∃ j : Nat, z = j := ⟨z.toNat, by omega⟩
      rename Fr _ _ _ _ => F11
      rename News _ _ _ _ => N11
      refine getitem_spec (X.keeps F11.keep) (T.keeps F11.keep) (roomUp R (by dsimp only [Around.deeper, Around.in1]; omega) (by dsimp only [Around.deeper, Around.in1]; omega) rfl) (PV.mono (Stay.le F11.keep)) (by omega) (by omega) (fun h12 tk12 tk13 S12 => ?_)
      have F12 := frStay F11 S12
      have N12 := newsStay N11 S12
      clear F11 N11
      k_steps
      · rename (_ ≠ _) => hne9
        exact absurd (by rw [Int.toNat_natCast]) hne9
      · rename Fr _ _ _ _ => F13
        rename News _ _ _ _ => N13
        exact TurnEnd.intro F13 N13 neI ⟨⟨_, rfl⟩, rfl⟩
    all_goals (rename Fr _ _ _ _ => F11; rename News _ _ _ _ => N11; exact TurnEnd.intro F11 N11 neI ⟨⟨_, rfl⟩, rfl⟩)
  · rintro u nx h9 tk9 rfl F9 N9
    clear F8 N8
    k_steps
    rename Fr _ _ _ _ => F10
    exact h _ _ F10.keep
end
end
def lawStmt : Stmt := PySem.Challenge.pw_nc0018_01.main.body.getLastD (.Pass ⟨0, 0, 0, 0⟩)
def lawBody : List Stmt := match lawStmt with | .FunctionDef _ _ b _ _ _ _ _ _ _ => b | _ => []
def lawScope : Scope := match lawStmt with | .FunctionDef _ _ _ _ _ _ sc _ _ _ => sc | _ => default
abbrev lawEnv (L f : Addr) (cd : Value) : Env := envOfC (Str.ofString "law") lawScope L f cd
def seg (i j : Nat) : List Stmt := (lawBody.drop i).take (j - i)
theorem lawBody_len : lawBody.length = 26 := by decide +kernel
theorem seg_split {i j : Nat} (h : i ≤ j) : lawBody.drop i = seg i j ++ lawBody.drop j := by
  unfold seg
  have := List.take_append_drop (j - i) (lawBody.drop i)
  rw [List.drop_drop, show i + (j - i) = j by omega] at this
  exact this.symm
theorem wp_execs_append {M : Model} {Γ : Ctx} {env : Env} {Q : Flow → Pos → Shared → Prop} {E : Value → Pos → Shared → Prop} {b : List Stmt} : ∀ (a : List Stmt) (p : Pos) (s : Shared), Sem.wp M Γ (execs (a ++ b) env) Q E p s = Sem.wp M Γ (execs a env) (fun f p' s' => match f with | .next => Sem.wp M Γ (execs b env) Q E p' s' | f => Q f p' s') E p s
  | [], p, s => rfl
  | st :: r, p, s => by
    rw [List.cons_append, execs_cons, execs_cons, Sem.wp_bind', Sem.wp_bind']
    congr 1
    funext f p' s'
    cases f
    case next => exact wp_execs_append r p' s'
    all_goals rfl
theorem execs_append {M : Model} {A : Around} {env : Env} {Q : Flow → Shared → Prop} {E : Value → Shared → Prop} {a b : List Stmt} {s : Shared} (h : wpAny M A (execs a env) (fun f s' => match f with | .next => wpAny M A (execs b env) Q E s' | f => Q f s') E s) : wpAny M A (execs (a ++ b) env) Q E s := by
  intro Γ p hΓ
  rw [wp_execs_append]
  refine Sem.wp_mono M Γ _ (fun f p' s' h' => ?_) (fun _ _ _ h' => h') _ _ (h Γ p hΓ)
  cases f <;> first | exact h' Γ p' hΓ | exact h'
theorem law_seg {M : Model} {A : Around} {env : Env} {Q : Flow → Shared → Prop} {E : Value → Shared → Prop} {i j : Nat} {s : Shared} (hij : i ≤ j) (h : wpAny M A (execs (seg i j) env) (fun f s' => match f with | .next => wpAny M A (execs (lawBody.drop j) env) Q E s' | f => Q f s') E s) : wpAny M A (execs (lawBody.drop i) env) Q E s := by
  rw [seg_split hij]
  exact execs_append h
theorem sz_of {vs : List Value} {ns : List Int} (hi : IntsAre vs ns) (h : ns.length ≤ 4000) : vs.toArray.size ≤ sizeLine := by
  rw [List.size_toArray, hi.length, sizeLine_eq]
  omega
section G2
local macro_rules | `(tactic| walk_at "ite") => `(tactic| first | with_reducible refine ite_tt ?_ | with_reducible refine ite_ff ?_)
local macro_rules | `(tactic| kmk_sum) => `(tactic| (simp only [sizeLine_eq, List.length_cons, List.length_nil, List.length_append, List.length_drop, List.length_take]; omega))
local macro_rules | `(tactic| walk_at "binaryOp Add ref ref") => `(tactic| (k_here; k_dflt (refine' kmk_add_ints ?F ?N ?a ?b ?i ?j ?_ ?z; (case F => k_asm); (case N => k_asm); (case a => kmk_list); (case b => kmk_list); (case i => l_ints); (case j => l_ints); (case z => kmk_sum)); intro D' ws' h' F' N' l1 hI'; (try k_lt l1); (try k_sweep)))
local macro_rules | `(tactic| walk_at "slice m") => `(tactic| first | exact kmk_from (by l_ints) (by omega) | exact kmk_upto (by l_ints) (by omega) | exact kmk_run (by l_ints) (by omega) (by omega) | exact kmk_all (by l_ints))
local macro_rules | `(tactic| walk_at "subscriptTail List Slice ref ref") => `(tactic| (k_here; k_dflt (refine' kmk_slice_ints ?F ?N ?l ?p ?q ?i ?m ?c ?_ ?s ?t ?z; (case F => k_asm); (case N => k_asm); (case l => kmk_list); (case p => kmk_part); (case q => kmk_part); (case i => l_ints); (case m => walk_at "slice m"); (case c => exact rfl); (case s => with_unfolding_all rfl); (case t => kmk_pure); (case z => exact sz_of (by l_ints) (by first | decide | (simp only [List.length_cons, List.length_nil, List.length_append, List.length_drop, List.length_take]; omega) | omega))); intro D' ws' h' F' N' l1 hI' hC' hL'; (try k_lt l1); (try k_sweep)))
local macro_rules | `(tactic| walk_at "subscriptTail Name Slice ref ref") => `(tactic| walk_at "subscriptTail List Slice ref ref")
theorem fillL1 : (fun (_ : OpenLaw) (_ : Params → Frag) => True) PySem.Challenge.rw_nc0018_01 hd.heap_1 := by
  k_fill
  exact True.intro
section
variable {w : World} {A : Around} {E : Value → Shared → Prop} {s : Shared} {Q : Value → Shared → Prop} {mg mb : Str → Option Value} {p : Program} {loose : List Str}

/-- the numbers: the script, filled up to five -/
theorem seg_0 {L f l : Addr} {cd : Value} {h₀ : Heap} {vs : List Value} {ns : List Int} {o1 o2 o3 : Obj} {Q : Flow → Shared → Prop}
    (X : (hd.heap_1 w.params).In h₀) (T : TopRead p loose mg mb h₀) (R : Room A 20)
    (F : Fr h₀ L s.heap (fun y => if y = Str.ofString "script" then some (.ref l) else none)) (N : News h₀ L s.heap [(L + 1 + 1 + 1, o3), (L + 1 + 1, o2), (L + 1, o1)])
    (hL : h₀.IsList l vs.toArray) (hI : IntsAre vs ns) (hl : vs.length ≤ 63)
    (h : ∀ h' tk D n0 n1 n2 t0 t1 t2 wr nr, Fr h₀ L h' (fun y => if y = Str.ofString "numbers" then some (.ref D) else if y = Str.ofString "script" then some (.ref l) else none) → News h₀ L h' [(D, listOf (List.toArray (.int n0 t0 :: .int n1 t1 :: .int n2 t2 :: wr)) 0), (L + 1 + 1 + 1, o3), (L + 1 + 1, o2), (L + 1, o1)] →
      IntsAre wr nr → 2 ≤ nr.length → nr.length ≤ 65 → AllLt D [(L + 1 + 1 + 1, o3), (L + 1 + 1, o2), (L + 1, o1)] → Q .next { s with heap := h', toks := tk }) :
    wpAny (model prg w) A (execs (seg 0 1) (lawEnv L f cd)) Q E s := by
  obtain ⟨hA, dp, fr, gd, un⟩ := A
  obtain rfl : hA = none := R.handled
  have hns : ns.length ≤ 63 := by have := hI.length; omega
  have hvn : vs.length = ns.length := hI.length
  have hz : vs.length ≤ 1000000 := by omega
  k_steps
  refine wpAny_execs_nil (env := lawEnv L f cd) ?_
  rename Fr _ _ _ _ => F1
  rename News _ _ _ _ => N1
  rename IntsAre _ (ns ++ _) => hI1
  rename (_ < _ ∧ _ < _ ∧ _ < _ ∧ _ < _ ∧ _ < _) => l1
  generalize hn : ns ++ _ = nums at hI1
  have hlen : 5 ≤ nums.length ∧ nums.length ≤ 68 := by
    rw [← hn]
    simp only [List.length_append, List.length_drop, List.length_cons, List.length_nil]
    omega
  rcases hI1 with _ | ⟨n0, t0, h1⟩
  · exfalso; simp at hlen
  rcases h1 with _ | ⟨n1, t1, h1⟩
  · exfalso; simp at hlen
  rcases h1 with _ | ⟨n2, t2, hr⟩
  · exfalso; simp at hlen
  · rename_i wr nr
    simp only [List.length_cons] at hlen
    refine h _ _ _ n0 n1 n2 t0 t1 t2 wr nr F1 (fun q hq => N1 q ?_) hr (by omega) (by omega) ⟨l1.2.2.1, l1.2.2.2.1, l1.2.2.2.2, trivial⟩
    simp only [List.mem_cons, List.not_mem_nil, or_false] at hq ⊢
    rcases hq with e | e | e | e
    · exact .inl e
    · exact .inr (.inr (.inr (.inl e)))
    · exact .inr (.inr (.inr (.inr (.inl e))))
    · exact .inr (.inr (.inr (.inr (.inr e))))
end
section
theorem fillL2 : (fun (_ : OpenLaw) (_ : Params → Frag) => True) PySem.Challenge.rw_nc0018_01 hd.heap_1 := by
  k_fill
  exact True.intro
section
variable {w : World} {A : Around} {E : Value → Shared → Prop} {s : Shared} {Q : Value → Shared → Prop} {mg mb : Str → Option Value} {p : Program} {loose : List Str}
local macro_rules | `(tactic| walk_at "subscriptTail Name Constant ref int") => `(tactic| (k_here; k_dflt (refine' item_heap ?l ?a ?b ?hx ?_; (case l => kmk_list); (case a => omega); (case b => omega); (case hx => exact rfl))))
local macro_rules | `(tactic| walk_at "call type:list") => `(tactic| (k_here; refine held_gen ?_; intro T9 hT9))

theorem seg_1 {L f l D : Addr} {cd : Value} {h₀ : Heap} {wr : List Value} {nr : List Int} {n0 n1 n2 : Int} {t0 t1 t2 : Tok} {o1 o2 o3 : Obj} {Q : Flow → Shared → Prop}
    (X : (hd.heap_1 w.params).In h₀) (T : TopRead p loose mg mb h₀) (R : Room A 20)
    (F : Fr h₀ L s.heap (fun y => if y = Str.ofString "numbers" then some (.ref D) else if y = Str.ofString "script" then some (.ref l) else none)) (N : News h₀ L s.heap [(D, listOf (List.toArray (.int n0 t0 :: .int n1 t1 :: .int n2 t2 :: wr)) 0), (L + 1 + 1 + 1, o3), (L + 1 + 1, o2), (L + 1, o1)])
    (hd1 : o1.data = .cell none) (hd2 : o2.data = .cell none) (hd3 : o3.data = .cell none)
    (hI : IntsAre wr nr) (hr1 : 2 ≤ nr.length) (hr2 : nr.length ≤ 65) (l1 : AllLt D [(L + 1 + 1 + 1, o3), (L + 1 + 1, o2), (L + 1, o1)])
    (h : ∀ h' tk Dr Dc ys xs kr bv tz o2' o1' cs chs, Fr h₀ L h' (fun y => if y = Str.ofString "chosen" then some (.ref Dc) else if y = Str.ofString "more" then some (.int n1 t1) else if y = Str.ofString "base" then some bv else if y = Str.ofString "numbers" then some (.ref D) else if y = Str.ofString "script" then some (.ref l) else none) →
      News h₀ L h' [(Dc, listOf (List.toArray cs) 0), (Dr, listOf (List.toArray ys) kr), (D, listOf (List.toArray (.int n0 t0 :: .int n1 t1 :: .int n2 t2 :: wr)) 0), (L + 1 + 1 + 1, o3), (L + 1 + 1, o2'), (L + 1, o1')] →
      o2'.data = .cell (some (.ref Dr)) → o1'.data = .cell (some (.int (xs.length : Int) tz)) → IntsAre ys xs → xs.length ≤ 1060 → IntsAre cs chs → chs.length ≤ 3 →
      (D < Dr ∧ L + 1 + 1 + 1 < Dr ∧ L + 1 + 1 < Dr ∧ L + 1 < Dr ∧ True) → (Dr < Dc ∧ D < Dc ∧ L + 1 + 1 + 1 < Dc ∧ L + 1 + 1 < Dc ∧ L + 1 < Dc ∧ True) → Q .next { s with heap := h', toks := tk }) :
    wpAny (model prg w) A (execs (seg 1 6) (lawEnv L f cd)) Q E s := by
  obtain ⟨hA, dp, fr, gd, un⟩ := A
  obtain rfl : hA = none := R.handled
  k_steps
  rename Fr _ _ _ _ => F1
  rename News _ _ _ _ => N1
  refine size_spec (X.keeps F1.keep) (T.keeps F1.keep) (R.less (by omega)) (fun h2 tk2 z tz S2 hz0 hz1 => ?_)
  have F2 := frStay F1 S2
  have N2 := newsStay N1 S2
  clear F1 N1
  k_steps
  rename (_ = call _ _) => hT9
  subst hT9
  rename (IsRange _ _ _ _ _ _ _ _) => R3
  have hm0 : 0 ≤ n0.fmod 1009 := Int.fmod_nonneg_of_pos _ (by decide)
  have hm1 : n0.fmod 1009 < 1009 := Int.fmod_lt_of_pos _ (by decide)
  rename Fr _ _ _ _ => F3
  rename News _ _ _ _ => N3
  revert F3 N3
  rename Fr _ _ _ _ => Fo
  rename News _ _ _ _ => No
  clear Fo No
  intro F3 N3
  refine list_rangeD rfl F3 N3 R3 (small_one (by omega) (by omega) (by omega) (by omega)) (rangeSize_nat _ _) (by omega) (fun h4 tk4 ys F4 N4 S4 hn4 hl4 hp4 hc4 => ?_)
  have hI4 := IntsAre.ofCarried hc4
  generalize hxs : rangeInts _ _ _ = xs at hI4
  have hxl : (xs.length : Int) = z := by rw [← hxs, rangeInts_length]; omega
  clear hc4
  obtain ⟨⟨kr, hr4⟩, ne4⟩ := hp4
  have N5 := newsAdd F3 N4 (Heap.get?_none_of_le (Nat.le_refl _)) hr4
  have lr := allLt_of fun p hp => Heap.lt_size (N3 p hp).1
  dsimp only [AllLt, List.append, List.cons_append, List.nil_append] at lr N5
  clear N3 F3 N4 S4 hn4 hl4 hr4 ne4 R3
  generalize Array.size (Heap.objs _) = Dr at lr N5 ⊢
  obtain rfl : z = (xs.length : Int) := hxl.symm
  k_steps
  all_goals refine wpAny_execs_nil (env := lawEnv L f cd) ?_
  all_goals rename Fr _ _ _ _ => F6
  all_goals rename News _ _ _ _ => N6
  all_goals rename (∀ p ∈ _, _ < _) => l6
  all_goals have l7 := allLt_of l6
  all_goals dsimp only [AllLt, List.append, List.cons_append, List.nil_append] at l7
  · exact h _ _ Dr _ ys xs _ _ tz _ _ [.int 0 _, .int 1 _, .int 2 _] [0, 1, 2] F6 N6 (by assumption) (by assumption) hI4 (by omega) (.cons _ _ (.cons _ _ (.cons _ _ .nil))) (by decide) lr l7
  · exact h _ _ Dr _ ys xs _ _ tz _ _ [.int _ _] [_] F6 N6 (by assumption) (by assumption) hI4 (by omega) (.cons _ _ .nil) (by simp) lr l7
end
end
/-- the object at b is no node of a tree -/
def NoNode (h : Heap) (b : Addr) : Prop := ∀ (vs : List Value) (k : Nat), h.get? b = some (listOf vs.toArray k) → (∃ v ∈ vs, ∀ l i2 k2, v = .ref l → h.get? l ≠ some (listOf i2 k2)) ∧ (vs.length ≠ 32 ∨ ∃ a, Value.ref a ∈ vs)
/-- the object at b is a list, a cell or an iterator -/
def NoObj (h : Heap) (b : Addr) : Prop := ∀ o, h.get? b = some o → (∃ its k, o = listOf its k) ∨ (∃ v, o.data = .cell v) ∨ (∃ v, o.data = .fields v) ∨ ∃ n, o.cls = .type n ∧ n ≠ "dict"
def NoTail (h : Heap) (b : Addr) : Prop := ∀ (vs : List Value) (k : Nat), h.get? b = some (listOf vs.toArray k) → ∃ a, Value.ref a ∈ vs
/-- the tail of a is not b -/
def TailNe (h : Heap) (a b : Addr) : Prop := ∀ dx c tc r sh ts t off to, h.get? a = some (vobj dx c tc r sh ts t off to) → t ≠ b
theorem ints_noref {vs : List Value} {xs : List Int} (h : IntsAre vs xs) : ∀ a, Value.ref a ∉ vs := by
  induction h with
  | nil => intro a ha; cases ha
  | cons n t _ ih =>
    intro a ha
    rcases List.mem_cons.mp ha with e | ha
    · cases e
    · exact ih a ha
def Offs (h : Heap) (ex : List Addr) : Lk := fun a o => h.get? a = some o ∧ a ∉ ex
theorem Tree.off {h : Heap} {ex : List Addr} (hn : ∀ b ∈ ex, NoNode h b) : ∀ {n : Nat} {v : Value} {xs : List Int}, Tree (At h) n v xs → Tree (Offs h ex) n v xs
  | 0, _, _, ⟨l, vs, e, ⟨k, a⟩, b, c⟩ => ⟨l, vs, e, ⟨k, a, fun q => by
      rcases (hn l q vs k a).2 with z | ⟨u, z⟩
      · exact z (b.length.trans c)
      · exact ints_noref b u z⟩, b, c⟩
  | n + 1, _, _, ⟨l, vs, e, ⟨k, a⟩, b, c⟩ => ⟨l, vs, e, ⟨k, a, fun q => by
      obtain ⟨v, hv, z⟩ := (hn l q vs k a).1
      obtain ⟨i, hi⟩ := List.mem_iff_getElem?.mp hv
      have := c i v hi
      cases n with
      | zero => obtain ⟨l2, vs2, e2, ⟨k2, a2⟩, _⟩ := this; exact z l2 _ k2 e2 a2
      | succ n => obtain ⟨l2, vs2, e2, ⟨k2, a2⟩, _⟩ := this; exact z l2 _ k2 e2 a2⟩, b, fun i u hu => Tree.off hn (c i u hu)⟩
theorem PVec.off {h : Heap} {ex : List Addr} {a : Addr} {xs : List Int} (V : PVec (At h) a xs) (hn : ∀ b ∈ ex, NoNode h b) (ho : ∀ b ∈ ex, NoObj h b) (ht : ∀ b ∈ ex, NoTail h b ∨ TailNe h a b) : PVec (Offs h ex) a xs := by
  obtain ⟨dx, tc, r, n, ts, t, to, ys, zs, vs, V, e⟩ := V
  obtain ⟨k, htl⟩ := V.tail
  have hob := V.obj
  have hdc := V.dict
  unfold At at htl hob hdc
  refine ⟨dx, tc, r, n, ts, t, to, ys, zs, vs, ⟨⟨hob, fun q => ?_⟩, ⟨hdc, fun q => ?_⟩, V.tree.off hn, ⟨k, htl, fun q => ?_⟩, V.are, V.full, V.level, V.even, V.room⟩, e⟩
  · rcases ho _ q _ hob with ⟨its, k, e⟩ | ⟨v, e⟩ | ⟨v, e⟩ | ⟨n, e, _⟩
    · cases e
    · cases e
    · cases e
    · cases e
  · rcases ho _ q _ hdc with ⟨its, k, e⟩ | ⟨v, e⟩ | ⟨v, e⟩ | ⟨n, e, ne⟩
    · exact absurd (congrArg Obj.cls e) (show Value.type "dict" ≠ Value.type "list" by decide)
    · cases e
    · cases e
    · injection e with e
      exact ne e.symm
  · rcases ht _ q with z | z
    · obtain ⟨u, hu⟩ := z vs k htl
      exact ints_noref V.are u hu
    · exact z _ _ _ _ _ _ _ _ _ hob rfl
theorem PVec.notL {h₀ h : Heap} {L a : Addr} {m : Str → Option Value} {x : Str} {v : Value} {ex : List Addr} {xs : List Int} (F : Fr h₀ L h m) (hm : m x = some v) (V : PVec (Offs h ex) a xs) {nw : List (Addr × Obj)} (U : ∀ b o, h.get? b = some o → b ≠ L → b ∉ ex → Lg h₀ nw b o) : PVec (Lg h₀ nw) a xs := by
  obtain ⟨dx, tc, r, n, ts, t, to, ys, zs, vs, V, e⟩ := V
  obtain ⟨k, htl⟩ := V.tail
  refine ⟨dx, tc, r, n, ts, t, to, ys, zs, vs, ⟨U _ _ V.obj.1 ?_ V.obj.2, U _ _ V.dict.1 (notLd F hm V.dict.1) V.dict.2, V.tree.monoL fun b its k e => U b _ e.1 (Mine.notL F e.1) e.2, ⟨k, U _ _ htl.1 (Mine.notL F htl.1) htl.2⟩, V.are, V.full, V.level, V.even, V.room⟩, e⟩
  rintro rfl
  obtain ⟨o, es, ep, ho, hd, _⟩ := F.ns
  rw [V.obj.1] at ho
  cases ho
  cases hd
theorem NTail.ne {g h : Heap} {a b : Addr} {o : Obj} (N : NTail g h a) (hb : g.get? b = some o) : TailNe h a b := by
  obtain ⟨dx, c, tc, r, sh, ts, t, off, to, e, z⟩ := N
  intro dx' c' tc' r' sh' ts' t' off' to' e' q
  rw [e] at e'
  injection e' with e'
  injection e' with _ _ _ e'
  have e2 : ([some (Value.int c tc), some (.ref r), some (.int sh ts), some (.ref t), some (.int off to)] : List (Option Value)) = [some (.int c' tc'), some (.ref r'), some (.int sh' ts'), some (.ref t'), some (.int off' to')] := by simpa using e'
  simp only [List.cons.injEq, Option.some.injEq, Value.ref.injEq] at e2
  have : t = t' := e2.2.2.2.1
  rw [this, q, hb] at z
  cases z
/-- what is no part of a vector, but for its tail -/
def NoPart (h : Heap) (b : Addr) : Prop := NoNode h b ∧ NoObj h b
theorem fullV {h₀ h : Heap} {L : Addr} {m : Str → Option Value} {x : Str} {v : Value} (F : Fr h₀ L h m) (hm : m x = some v) (ex : List Addr) (hn : ∀ b ∈ ex, NoPart h b) :
    ∃ nw, News h₀ L h nw ∧ OwnOff nw ex ∧ ∀ a xs, PVec (At h) a xs → (∀ b ∈ ex, NoTail h b ∨ TailNe h a b) → PVec (Lg h₀ nw) a xs := by
  obtain ⟨nw, N, O, U⟩ := full F ex
  exact ⟨nw, N, O, fun a xs V ht => (V.off (fun b hb => (hn b hb).1) (fun b hb => (hn b hb).2) ht).notL F hm U⟩
theorem cellNo {h : Heap} {b : Addr} {o : Obj} {v : Option Value} (e : h.get? b = some o) (hd : o.data = .cell v) : NoPart h b ∧ NoTail h b := by
  have z : ∀ its k, h.get? b ≠ some (listOf its k) := fun its k q => by
    rw [e] at q
    cases q
    cases hd
  refine ⟨⟨fun vs k q => absurd q (z _ _), fun o' e' => .inr (.inl ⟨v, ?_⟩)⟩, fun vs k q => absurd q (z _ _)⟩
  rw [e] at e'
  cases e'
  exact hd
theorem iterNo {h : Heap} {b : Addr} {o : Obj} {v : Array Value} (e : h.get? b = some o) (hd : o.data = .fields v) : NoPart h b ∧ NoTail h b := by
  have z : ∀ its k, h.get? b ≠ some (listOf its k) := fun its k q => by
    rw [e] at q
    cases q
    cases hd
  refine ⟨⟨fun vs k q => absurd q (z _ _), fun o' e' => .inr (.inr (.inl ⟨v, ?_⟩))⟩, fun vs k q => absurd q (z _ _)⟩
  rw [e] at e'
  cases e'
  exact hd
theorem clsNo {h : Heap} {b : Addr} {o : Obj} {n : String} (e : h.get? b = some o) (hd : o.cls = .type n) (n1 : n ≠ "list") (n2 : n ≠ "dict") : NoPart h b ∧ NoTail h b := by
  have z : ∀ its k, h.get? b ≠ some (listOf its k) := fun its k q => by
    rw [e] at q
    cases q
    injection hd with hd
    exact n1 hd.symm
  refine ⟨⟨fun vs k q => absurd q (z _ _), fun o' e' => .inr (.inr (.inr ⟨n, ?_, n2⟩))⟩, fun vs k q => absurd q (z _ _)⟩
  rw [e] at e'
  cases e'
  exact hd
theorem listEq {h : Heap} {b : Addr} {vs ws : List Value} {k k' : Nat} (e : h.get? b = some (listOf vs.toArray k)) (e' : h.get? b = some (listOf ws.toArray k')) : ws = vs := by
  rw [e] at e'
  injection e' with e'
  injection e' with _ _ e' _
  injection e' with e' _
  simpa using e'.symm
theorem refsNo {h : Heap} {a b : Addr} {vs : List Value} {k : Nat} {xs : List Int} (e : h.get? b = some (listOf vs.toArray k)) (ha : Value.ref a ∈ vs) (V : PVec (At h) a xs) : NoPart h b ∧ NoTail h b := by
  obtain ⟨dx, tc, r, n, ts, t, to, ys, zs, us, V, _⟩ := V
  have hob := V.obj
  unfold At at hob
  refine ⟨⟨fun ws k' q => ?_, fun o' e' => .inl ⟨vs.toArray, k, ?_⟩⟩, fun ws k' q => ?_⟩
  · obtain rfl := listEq e q
    refine ⟨⟨_, ha, fun l i2 k2 z1 z2 => ?_⟩, .inr ⟨a, ha⟩⟩
    cases z1
    rw [hob] at z2
    cases z2
  · rw [e] at e'
    cases e'
    rfl
  · obtain rfl := listEq e q
    exact ⟨a, ha⟩
theorem intsNo {h : Heap} {b : Addr} {vs : List Value} {k : Nat} {xs : List Int} (e : h.get? b = some (listOf vs.toArray k)) (hi : IntsAre vs xs) (h0 : 0 < xs.length) (h1 : xs.length < 32) : NoPart h b := by
  have hl := hi.length
  refine ⟨fun ws k' q => ?_, fun o' e' => .inl ⟨vs.toArray, k, ?_⟩⟩
  · obtain rfl := listEq e q
    refine ⟨?_, .inl (by omega)⟩
    cases hi with
    | nil => simp at h0
    | cons n t _ => exact ⟨_, .head _, fun l i2 k2 z1 => by cases z1⟩
  · rw [e] at e'
    cases e'
    rfl
/-- the ledger behind a call, with the vectors that stood and those that are new -/
theorem refit {h₀ h : Heap} {L : Addr} {m : Str → Option Value} {x : Str} {v : Value} {nw : List (Addr × Obj)} {ex : List Addr} (F : Fr h₀ L h m) (hm : m x = some v) (Nw : News h₀ L h nw) (off : OwnOff nw ex) (hn : ∀ b ∈ ex, NoPart h b) :
    ∃ nw', News h₀ L h nw' ∧ OwnOff nw' ex ∧ Le (Lg h₀ nw) (Lg h₀ nw') ∧ ∀ a xs, PVec (At h) a xs → (∀ b ∈ ex, NoTail h b ∨ TailNe h a b) → PVec (Lg h₀ nw') a xs := by
  obtain ⟨nw', N, O, U⟩ := full F ex
  refine ⟨nw', N, O, fun b o e => ?_, fun a xs V ht => (V.off (fun b hb => (hn b hb).1) (fun b hb => (hn b hb).2) ht).notL F hm U⟩
  rcases e with e | e
  · exact .inl e
  · exact U b o (Nw.get e) (Nw _ e).2.1 (fun q => off _ e _ q rfl)
/-- each of these values is a vector that holds xs -/
def Vecs (P : Lk) (ws : List Value) (xs : List Int) : Prop := ∀ v ∈ ws, ∃ a, v = .ref a ∧ PVec P a xs
theorem Vecs.mono {P P' : Lk} (H : Le P P') {ws : List Value} {xs : List Int} (h : Vecs P ws xs) : Vecs P' ws xs := fun v hv => let ⟨a, e, V⟩ := h v hv; ⟨a, e, V.mono H⟩
theorem Vecs.snoc {P : Lk} {ws : List Value} {xs : List Int} {a : Addr} (h : Vecs P ws xs) (V : PVec P a xs) : Vecs P (ws ++ [.ref a]) xs := by
  intro v hv
  rcases List.mem_append.mp hv with hv | hv
  · exact h v hv
  · exact ⟨a, List.mem_singleton.mp hv, V⟩
/-- the shorter vectors that were met, and their lengths -/
inductive Met (P : Lk) (xs : List Int) : List Value → List Int → Prop
  | nil : Met P xs [] []
  | cons {a : Addr} {n : Int} {ms : List Value} {ls : List Int} (h0 : 0 ≤ n) (h1 : n ≤ xs.length) (V : PVec P a (xs.take n.toNat)) (r : Met P xs ms ls) : Met P xs (.ref a :: ms) (n :: ls)
theorem Met.mono {P P' : Lk} (H : Le P P') {xs : List Int} {ms : List Value} {ls : List Int} (h : Met P xs ms ls) : Met P' xs ms ls := by
  induction h with
  | nil => exact .nil
  | cons h0 h1 V _ ih => exact .cons h0 h1 (V.mono H) ih
theorem Met.snoc {P : Lk} {xs : List Int} {ms : List Value} {ls : List Int} {a : Addr} {n : Int} (h : Met P xs ms ls) (h0 : 0 ≤ n) (h1 : n ≤ xs.length) (V : PVec P a (xs.take n.toNat)) : Met P xs (ms ++ [.ref a]) (ls ++ [n]) := by
  induction h with
  | nil => exact .cons h0 h1 V .nil
  | cons h0 h1 V _ ih => exact .cons h0 h1 V ih
theorem Met.length {P : Lk} {xs : List Int} {ms : List Value} {ls : List Int} (h : Met P xs ms ls) : ms.length = ls.length := by
  induction h with
  | nil => rfl
  | cons _ _ _ _ ih => simp [ih]
theorem Met.mem {P : Lk} {xs : List Int} {ms : List Value} {ls : List Int} (h : Met P xs ms ls) (h0 : 0 < ls.length) : ∃ a ys, Value.ref a ∈ ms ∧ PVec P a ys := by
  cases h with
  | nil => simp at h0
  | cons _ _ V _ => exact ⟨_, _, .head _, V⟩
theorem Met.get {P : Lk} {xs : List Int} {ms : List Value} {ls : List Int} (h : Met P xs ms ls) : ∀ {i : Nat} {v : Value} {n : Int}, ms[i]? = some v → ls[i]? = some n → ∃ a, v = .ref a ∧ 0 ≤ n ∧ n ≤ xs.length ∧ PVec P a (xs.take n.toNat) := by
  induction h with
  | nil => intro i v n hv; simp at hv
  | cons h0 h1 V _ ih =>
    intro i v n hv hn
    cases i with
    | zero =>
      simp only [List.getElem?_cons_zero, Option.some.injEq] at hv hn
      subst hv hn
      exact ⟨_, rfl, h0, h1, V⟩
    | succ i => exact ih (by simpa using hv) (by simpa using hn)
theorem ownOff_cons {d : Addr} {nw : List (Addr × Obj)} {ex : List Addr} (h : AllLt d nw) (off : OwnOff nw ex) : OwnOff nw (d :: ex) := by
  intro p hp b hb
  rcases List.mem_cons.mp hb with rfl | hb
  · exact Nat.ne_of_lt (allLt_mem h p hp)
  · exact off p hp b hb
theorem nwT {h₀ h : Heap} {L : Addr} {p : Addr × Obj} {r : List (Addr × Obj)} (N : News h₀ L h (p :: r)) : News h₀ L h r := fun q hq => N q (.tail _ hq)
theorem nwS {h₀ h : Heap} {L : Addr} {p : Addr × Obj} {r r' : List (Addr × Obj)} (N : News h₀ L h (p :: r)) (K : News h₀ L h r → News h₀ L h r') : News h₀ L h (p :: r') := fun q hq => (List.mem_cons.mp hq).elim (fun e => N q (e ▸ .head _)) fun e => K (nwT N) q e
theorem nwI {h₀ h : Heap} {L : Addr} {p : Addr × Obj} {r : List (Addr × Obj)} (N : News h₀ L h (p :: r)) {r' : List (Addr × Obj)} (N' : News h₀ L h r') : News h₀ L h (p :: r') := nwS N fun _ => N'
/-- what the names hold -/
def HasC (m : Str → Option Value) : List (Str × Value) → Prop
  | [] => True
  | p :: r => m p.1 = some p.2 ∧ HasC m r
def ifs (m : Str → Option Value) : List (Str × Value) → Str → Option Value
  | [] => m
  | p :: r => fun y => if y = p.1 then some p.2 else ifs m r y
theorem HasC.ifs {m : Str → Option Value} : ∀ {ps : List (Str × Value)}, HasC m ps → m = Mine.ifs m ps
  | [], _ => rfl
  | p :: r, ⟨h, hr⟩ => by
    funext y
    show m y = if y = p.1 then some p.2 else Mine.ifs m r y
    by_cases e : y = p.1
    · rw [if_pos e, e, h]
    · rw [if_neg e, ← hr.ifs]
theorem frHas {h₀ h : Heap} {L : Addr} {m : Str → Option Value} {ps : List (Str × Value)} (F : Fr h₀ L h m) (H : HasC m ps) : Fr h₀ L h (ifs m ps) := H.ifs ▸ F
theorem frHas1 {h₀ h : Heap} {L : Addr} {m : Str → Option Value} {ps : List (Str × Value)} {x : Str} {v : Option Value} (F : Fr h₀ L h (fun y => if y = x then v else m y)) (H : HasC m ps) : Fr h₀ L h (fun y => if y = x then v else ifs m ps y) := by
  rw [← H.ifs]
  exact F
section
open PySem PySem.W PySem.Calls PyProof.Rows PySem.Spec
section
variable {prog : Program} {w : World} {A : Around} {E : Value → Shared → Prop} {s : Shared} {env : Env} {h₀ : Heap} {x : Str} {body : List Stmt} {Q : Flow → Shared → Prop}
theorem iter_ledO {l : Addr} {vs : List Value} {k : Nat} {m₀ : Str → Option Value} {news : List (Addr × Obj)} (J : Nat → (Str → Option Value) → List (Addr × Obj) → Prop)
    (hh : A.handled = none) (hJl : ∀ i m nx, J i m nx → Lg h₀ nx l (listOf vs.toArray k)) (F : Fr h₀ env.locals s.heap m₀) (N : News h₀ env.locals s.heap news) (hj : J 0 m₀ news)
    (turn : ∀ i v m₁ news₁ h tk I o, vs[i]? = some v → J i m₁ news₁ → AllNe I news₁ → (∃ fs, o.data = .fields fs) → Fr h₀ env.locals h (fun y => if y = x then some v else m₁ y) → News h₀ env.locals h ((I, o) :: news₁) →
      wpAny (model prog w) A (execs body env) (TurnEnd h₀ env.locals I o (J (i + 1)) { s with heap := h, toks := tk } Q) E { s with heap := h, toks := tk })
    (done : ∀ m₁ news₁ h tk, J vs.length m₁ news₁ → Fr h₀ env.locals h m₁ → News h₀ env.locals h news₁ → Q .next { s with heap := h, toks := tk }) :
    wpAny (model prog w) A (pyIter (.ref l)) (fun it s₂ => LoopAtV prog w A h₀ env x body Q E it s₂) E s := by
  have hol : s.heap.get? l = some (listOf vs.toArray k) := lg_at F N _ _ (hJl 0 _ _ hj)
  have hls : s.heap.IsList l vs.toArray := ⟨_, hol, rfl, k, rfl⟩
  have hlt : l < s.heap.objs.size := Heap.lt_size hol
  have hne : l ≠ s.heap.objs.size := Nat.ne_of_lt hlt
  refine wpAny_pyIter_list hls ?_
  have W := Walks.list (prog := prog) (w := w) hh s.heap.objs.size l hne vs.toArray
  have hlen : vs.toArray.size = vs.length := by simp
  rw [hlen] at W
  refine ⟨_, _, _, vs.length, _, _, m₀, news, J, rfl, W, ?_, ?_, ?_, ⟨⟨_, Heap.get?_push_size _ rfl, rfl, rfl⟩, hls.at fun o e => Heap.get?_push_of_some _ e⟩, F.push _, (fun p hp => ⟨Heap.get?_push_of_some _ (N p hp).1, (N p hp).2⟩), hj, ?_, ?_⟩
  · intro hm
    rcases List.mem_cons.mp hm with e | hm
    · exact absurd F.ns.lt (e ▸ Nat.lt_irrefl _)
    · exact notL F hol (List.mem_singleton.mp hm).symm
  · intro b hb
    rw [List.mem_singleton.mp hb]
    exact next_is_new F
  · intro p hp hI
    exact absurd (Heap.lt_size (N p hp).1) ((List.mem_singleton.mp hI) ▸ Nat.lt_irrefl _)
  · rintro i v m₁ news₁ s₁ own ⟨hh', tk', rfl⟩ hin hP hJ hoff hown hown2 hown3 hst F₁ N₁
    obtain ⟨⟨oI, hoI, _, hdI⟩, _⟩ := id hst
    have hI0 : h₀.get? s.heap.objs.size = none := next_is_new F
    have hmem : (s.heap.objs.size, oI) ∈ own := hown3 _ (.head _) hI0 _ hoI
    have hv : vs[i]? = some v := by simpa using hP
    have N₂ : News h₀ env.locals hh' ((s.heap.objs.size, oI) :: news₁) := fun p hp => (List.mem_cons.mp hp).elim (fun e => e ▸ N₁ _ (List.mem_append_left _ hmem)) fun h => N₁ p (List.mem_append_right _ h)
    have hne' : AllNe s.heap.objs.size news₁ := by
      have : ∀ p ∈ news₁, p.1 ≠ s.heap.objs.size := fun p hp e => hoff p hp (List.mem_singleton.mpr e)
      clear hJ hoff N₁ N₂
      induction news₁ with
      | nil => trivial
      | cons q r ih => exact ⟨this q (.head _), ih fun p hp => this p (.tail _ hp)⟩
    refine wpAny_mono (turn i v m₁ news₁ hh' tk' s.heap.objs.size oI hv hJ hne' ⟨_, hdI⟩ F₁ N₂) (fun f s₂ p => ?_) fun _ _ e => e
    have fin : (∃ h' tk m' nx, s₂ = { s with heap := h', toks := tk } ∧ Fr h₀ env.locals h' m' ∧ News h₀ env.locals h' ((s.heap.objs.size, oI) :: nx) ∧ (∀ p ∈ nx, p.1 ≠ s.heap.objs.size) ∧ J (i + 1) m' nx) → LoopStepU h₀ env.locals [s.heap.objs.size] own (J (i + 1)) { s with heap := hh', toks := tk' } .next s₂ := by
      rintro ⟨h', tk, m', nx, e, F', N', hn, hm⟩
      refine ⟨rfl, h', tk, m', nx, e, F', fun p hp => ?_, fun p hp hq => hn p hp (List.mem_singleton.mp hq), hm⟩
      rcases List.mem_append.mp hp with hp | hp
      · have hp0 := N₁ p (List.mem_append_left _ hp)
        refine ⟨?_, hp0.2⟩
        rcases List.mem_cons.mp (hown p hp) with e1 | e1
        · have : p.2 = oI := by have := hp0.1; rw [e1] at this; rw [show hh'.get? s.heap.objs.size = some oI from hoI] at this; exact (Option.some.inj this).symm
          rw [e1, this]; exact (N' _ (.head _)).1
        · have e1 := List.mem_singleton.mp e1
          have hl1 : hh'.get? l = some (listOf vs.toArray k) := lg_at F₁ (fun q hq => N₁ q (List.mem_append_right _ hq)) _ _ (hJl i _ _ hJ)
          have : p.2 = listOf vs.toArray k := by have := hp0.1; rw [e1, hl1] at this; exact (Option.some.inj this).symm
          rw [e1, this]
          exact lg_at F' (fun q hq => N' q (.tail _ hq)) _ _ (hJl _ _ _ hm)
      · exact N' p (.tail _ hp)
    cases f with
    | ret v => exact .ret p
    | brk => exact .brk p
    | next => exact .next (fin p)
    | cont => exact .cont (fin p)
  · rintro h' tk m' news' F' N' _ hJ
    exact done m' news' h' tk hJ F' N'
theorem ownOff_ne {d : Addr} : ∀ {nw : List (Addr × Obj)} {ex : List Addr}, AllNe d nw → OwnOff nw ex → OwnOff nw (d :: ex)
  | [], _, _, _ => fun _ hp => (nomatch hp)
  | _ :: _, _, ⟨h, r⟩, off => by
    intro p hp b hb
    rcases List.mem_cons.mp hp with rfl | hp
    · rcases List.mem_cons.mp hb with rfl | hb
      · exact h
      · exact off _ (.head _) b hb
    · exact ownOff_ne r (fun q hq => off q (.tail _ hq)) p hp b hb
theorem instLg2 {h : Heap} {L : Addr} {m : Str → Option Value} {nw all : List (Addr × Obj)} {a dx C : Addr} {sl : Array (Option Value)} {es : List DictEntry} {n : Nat} (F : Fr h₀ L h m) (N : News h₀ L h all) (ho : Lg h₀ nw a ⟨.ref C, some dx, .plain, sl⟩) (hd : Lg h₀ nw dx (dictOf es n)) (sub : ∀ p ∈ nw, p ∈ all) :
    InstAt h a ⟨.ref C, some dx, .plain, sl⟩ C (some (dictOf es n)) :=
  ⟨ho.elim (F.keep _ _) (fun e => N.get (sub _ e)), rfl, rfl, hd.elim (F.keep _ _) (fun e => N.get (sub _ e))⟩
end
theorem ite_dT {c : Prop} [Decidable c] {p q : Prop} (h : c) (hp : p) : if decide c = true then p else q := by rw [if_pos (decide_eq_true h)]; exact hp
theorem ite_dF {c : Prop} [Decidable c] {p q : Prop} (h : ¬ c) (hq : q) : if decide c = true then p else q := by rw [if_neg (by simpa using h)]; exact hq
theorem ite_qT {a b : Int} {p q : Prop} (h : a = b) (hp : p) : if (a == b) = true then p else q := by rw [if_pos (by simpa using h)]; exact hp
theorem ite_qF {a b : Int} {p q : Prop} (h : ¬ a = b) (hq : q) : if (a == b) = true then p else q := by rw [if_neg (by simpa using h)]; exact hq
theorem ite_bT {b : Bool} {p q : Prop} (h : b = true) (hp : p) : if b = true then p else q := by rw [if_pos h]; exact hp
theorem ite_bF {b : Bool} {p q : Prop} (h : b = false) (hq : q) : if b = true then p else q := by rw [h]; exact hq
end
section
variable {h₀ h h' : Heap} {L : Addr} {m : Str → Option Value} {news nw : List (Addr × Obj)}
/-- what will be changed later, and is no part of a vector -/
def ExAt (h₀ h h' : Heap) (b : Addr) : Prop := NoPart h' b ∧ (∃ o, h.get? b = some o) ∧ h₀.get? b = none
def ExOk (h₀ h h' : Heap) : List Addr → Prop
  | [] => True
  | b :: r => ExAt h₀ h h' b ∧ ExOk h₀ h h' r
theorem ExOk.at : ∀ {ex : List Addr}, ExOk h₀ h h' ex → ∀ b ∈ ex, ExAt h₀ h h' b
  | _ :: _, ⟨a, r⟩, b, hb => (List.mem_cons.mp hb).elim (fun e => e ▸ a) fun hb => r.at b hb
theorem exCell {b : Addr} {o : Obj} {v : Option Value} (N : News h₀ L h news) (S : Stay h h') (hb : (b, o) ∈ news) (hd : o.data = .cell v) : ExAt h₀ h h' b :=
  ⟨(cellNo (S _ _ (N.get hb)) hd).1, ⟨_, N.get hb⟩, N.fresh hb⟩
theorem exIter {b : Addr} {o : Obj} (N : News h₀ L h news) (S : Stay h h') (hb : (b, o) ∈ news) (hd : ∃ v, o.data = .fields v) : ExAt h₀ h h' b :=
  let ⟨_, hd⟩ := hd; ⟨(iterNo (S _ _ (N.get hb)) hd).1, ⟨_, N.get hb⟩, N.fresh hb⟩
theorem exRefs {a b : Addr} {vs : List Value} {k : Nat} {xs : List Int} (F : Fr h₀ L h m) (N : News h₀ L h news) (S : Stay h h') (hb : (b, listOf vs.toArray k) ∈ news) (ha : Value.ref a ∈ vs) (V : PVec (Lg h₀ nw) a xs) (sub : ∀ p ∈ nw, p ∈ news) : ExAt h₀ h h' b :=
  ⟨(refsNo (S _ _ (N.get hb)) ha (V.mono fun x o e => S _ _ (subLg F N sub _ _ e))).1, ⟨_, N.get hb⟩, N.fresh hb⟩
theorem exInts {b : Addr} {vs : List Value} {k : Nat} {xs : List Int} (N : News h₀ L h news) (S : Stay h h') (hb : (b, listOf vs.toArray k) ∈ news) (hi : IntsAre vs xs) (h0 : 0 < xs.length) (h1 : xs.length < 32) : ExAt h₀ h h' b :=
  ⟨intsNo (S _ _ (N.get hb)) hi h0 h1, ⟨_, N.get hb⟩, N.fresh hb⟩
theorem vobj_tail {dx c tc r sh ts t off to dx' c' tc' r' sh' ts' t' off' to'} (e : vobj dx c tc r sh ts t off to = vobj dx' c' tc' r' sh' ts' t' off' to') : t = t' := by
  injection e with _ _ _ e'
  have e2 : ([some (Value.int c tc), some (.ref r), some (.int sh ts), some (.ref t), some (.int off to)] : List (Option Value)) = [some (.int c' tc'), some (.ref r'), some (.int sh' ts'), some (.ref t'), some (.int off' to')] := by simpa using e'
  simp only [List.cons.injEq, Option.some.injEq, Value.ref.injEq] at e2
  exact e2.2.2.2.1
theorem PVec.tailNe {a b : Addr} {xs : List Int} {ex : List Addr} (V : PVec (Lg h₀ nw) a xs) (k0 : Stay h₀ h) (Nw : News h₀ L h nw) (off : OwnOff nw ex) (hb : b ∈ ex) (h0 : h₀.get? b = none) : TailNe h a b := by
  obtain ⟨dx, tc, r, n, ts, t, to, ys, zs, us, V, _⟩ := V
  obtain ⟨k, ht⟩ := V.tail
  have hob : h.get? a = some _ := V.obj.elim (k0 _ _) fun e => Nw.get e
  intro dx' c' tc' r' sh' ts' t' off' to' e q
  rw [hob] at e
  have := vobj_tail (Option.some.inj e)
  subst q
  subst this
  rcases ht with e | e
  · rw [h0] at e; cases e
  · exact off _ e _ hb rfl
/-- behind a call that makes a vector -/
theorem refitX {x : Str} {v : Value} {ex : List Addr} {a a' : Addr} {xs ys : List Int} (F : Fr h₀ L h m) (hm : m x = some v) (S : Stay h h') (N : News h₀ L h news) (sub : ∀ p ∈ nw, p ∈ news) (off : OwnOff nw ex) (ok : ExOk h₀ h h' ex) (V : PVec (Lg h₀ nw) a xs) (V' : PVec (At h') a' ys) (ht : a' = a ∨ NTail h h' a') :
    ∃ nw', News h₀ L h' nw' ∧ OwnOff nw' ex ∧ Le (Lg h₀ nw) (Lg h₀ nw') ∧ PVec (Lg h₀ nw') a' ys := by
  have Nw : News h₀ L h' nw := fun p hp => newsStay N S p (sub p hp)
  obtain ⟨nw', N', off', le, U⟩ := refit (frStay F S) hm Nw off fun b hb => (ok.at b hb).1
  refine ⟨nw', N', off', le, U a' ys V' fun b hb => .inr ?_⟩
  obtain ⟨_, ⟨o, ho⟩, h0⟩ := ok.at b hb
  rcases ht with rfl | ht
  · exact V.tailNe (frStay F S).keep Nw off hb h0
  · exact ht.ne ho
theorem append_LK {prog : Program} {w : World} {A : Around} {E : Value → Shared → Prop} {s : Shared} {D : Addr} {news' : List (Addr × Obj)} {vs : List Value} {n : Nat} {x : Value} {Q : Value → Shared → Prop} (F : Fr h₀ L s.heap m) (N : News h₀ L s.heap news) (U : Upd D (listOf vs.toArray n) (listOf (vs ++ [x]).toArray (n + 1)) news news') (hz : vs.length ≤ 4000)
    (h : ∀ h', Fr h₀ L h' m → News h₀ L h' news' → Q .none { s with heap := h' }) : wpAny (model prog w) A (call (.builtin "list.append") [.ref D, x]) Q E s :=
  append_K F N (by rw [List.push_toArray]; exact U) h (by rw [List.size_toArray, sizeLine_eq]; omega)
end
section
theorem fillL3 : (fun (_ : OpenLaw) (_ : Params → Frag) => True) PySem.Challenge.rw_nc0018_01 hd.heap_1 := by
  k_fill
  exact True.intro
section
variable {w : World} {A : Around} {E : Value → Shared → Prop} {s : Shared} {Q : Value → Shared → Prop} {mg mb : Str → Option Value} {p : Program} {loose : List Str}
local macro_rules | `(tactic| walk_at "subscriptTail Name Constant ref int") => `(tactic| (k_here; k_dflt (refine' item_heap ?l ?a ?b ?hx ?_; (case l => kmk_list); (case a => omega); (case b => omega); (case hx => exact rfl))))

theorem seg_2 {L f l D Dr Dc : Addr} {cd bv : Value} {h₀ : Heap} {wr ys cs : List Value} {nr xs chs : List Int} {n0 n1 n2 : Int} {t0 t1 t2 tz : Tok} {o1 o2 o3 : Obj} {kr : Nat} {Q : Flow → Shared → Prop}
    (X : (hd.heap_1 w.params).In h₀) (T : TopRead p loose mg mb h₀) (R : Room A 20)
    (F : Fr h₀ L s.heap (fun y => if y = Str.ofString "chosen" then some (.ref Dc) else if y = Str.ofString "more" then some (.int n1 t1) else if y = Str.ofString "base" then some bv else if y = Str.ofString "numbers" then some (.ref D) else if y = Str.ofString "script" then some (.ref l) else none)) (N : News h₀ L s.heap [(Dc, listOf (List.toArray cs) 0), (Dr, listOf (List.toArray ys) kr), (D, listOf (List.toArray (.int n0 t0 :: .int n1 t1 :: .int n2 t2 :: wr)) 0), (L + 1 + 1 + 1, o3), (L + 1 + 1, o2), (L + 1, o1)])
    (hd1 : o1.data = .cell (some (.int (xs.length : Int) tz))) (hd2 : o2.data = .cell (some (.ref Dr))) (hd3 : o3.data = .cell none)
    (hI : IntsAre ys xs) (hx : xs.length ≤ 1060) (lr : (D < Dr ∧ L + 1 + 1 + 1 < Dr ∧ L + 1 + 1 < Dr ∧ L + 1 < Dr ∧ True)) (lc : (Dr < Dc ∧ D < Dc ∧ L + 1 + 1 + 1 < Dc ∧ L + 1 + 1 < Dc ∧ L + 1 < Dc ∧ True))
    (h : ∀ h' tk m' Dw Dm Dl a1 g (d : Int) td nw, Fr h₀ L h' m' → HasC m' [(Str.ofString "lengths", .ref Dl), (Str.ofString "met", .ref Dm), (Str.ofString "grown", .ref g), (Str.ofString "done", .int d td), (Str.ofString "ways", .ref Dw), (Str.ofString "chosen", .ref Dc), (Str.ofString "more", .int n1 t1), (Str.ofString "numbers", .ref D)] →
      News h₀ L h' ((Dl, listOf (List.toArray [.int d td]) 0) :: (Dm, listOf (List.toArray [.ref g]) 0) :: (Dw, listOf (List.toArray [.ref a1]) 0) :: (Dc, listOf (List.toArray cs) 0) :: (Dr, listOf (List.toArray ys) kr) :: (D, listOf (List.toArray (.int n0 t0 :: .int n1 t1 :: .int n2 t2 :: wr)) 0) :: (L + 1 + 1 + 1, o3) :: (L + 1 + 1, o2) :: (L + 1, o1) :: nw) → OwnOff nw [Dl, Dm, Dw, L + 1 + 1 + 1] →
      (@LT.lt Nat _ (Dc) (Dw) ∧ @LT.lt Nat _ (Dw) (Dm) ∧ @LT.lt Nat _ (Dm) (Dl)) → 0 ≤ d → d ≤ xs.length → PVec (Lg h₀ nw) a1 xs → PVec (Lg h₀ nw) g (xs.take d.toNat) → Q .next { s with heap := h', toks := tk }) :
    wpAny (model prg w) A (execs (seg 6 11) (lawEnv L f cd)) Q E s := by
  obtain ⟨hA, dp, fr, gd, un⟩ := A
  obtain rfl : hA = none := R.handled
  k_steps
  rename Fr _ _ _ _ => F1
  rename News _ _ _ _ => N1
  refine pvector_list (X.keeps F1.keep) (T.keeps F1.keep) (R.less (by omega)) ⟨kr, N1.get (.tail _ (.head _))⟩ hI (by omega) (fun h2 tk2 a1 S2 V1 => ?_)
  have F2 := frStay F1 S2
  have N2 := newsStay N1 S2
  clear F1 N1
  have c3 := cellNo (N2.get (.tail _ (.tail _ (.tail _ (.head _))))) hd3
  obtain ⟨nw, Nw, off, U⟩ := fullV F2 (x := Str.ofString "script") rfl [L + 1 + 1 + 1] (fun b hb => by rw [List.mem_singleton.mp hb]; exact c3.1)
  have V1 := U a1 xs V1 (fun b hb => .inl (by rw [List.mem_singleton.mp hb]; exact c3.2))
  have N3 := newsApp N2 Nw
  simp only [List.cons_append, List.nil_append] at N3
  clear N2 Nw U c3 S2
  have hm0 : 0 ≤ n1.fmod 71 := Int.fmod_nonneg_of_pos _ (by decide)
  have hm1 : n1.fmod 71 < 71 := Int.fmod_lt_of_pos _ (by decide)
  k_steps
  rename Fr _ _ _ _ => F4
  rename News _ _ _ _ => N4
  rename IntsAre _ (List.take _ _) => hI4
  generalize hdv : (xs.length : Int) - (if n1.fmod 71 < (xs.length : Int) then n1.fmod 71 else (xs.length : Int)) = d at *
  have hd0 : 0 ≤ d := by rw [← hdv]; split <;> omega
  have hd1' : d ≤ xs.length := by rw [← hdv]; split <;> omega
  clear hdv
  refine pvector_list (X.keeps F4.keep) (T.keeps F4.keep) (R.less (by omega)) ⟨_, N4.get (.head _)⟩ hI4 (by simp only [List.length_take]; omega) (fun h5 tk5 g S5 V5 => ?_)
  have F5 := frStay F4 S5
  have N5 := newsStay N4 S5
  clear F4 N4
  have c3 := cellNo (N5.get (.tail _ (.tail _ (.tail _ (.tail _ (.tail _ (.head _))))))) hd3
  have cw := refsNo (N5.get (.tail _ (.head _))) (.head _) (V1.mono (lg_at F5 (fun q hq => N5 q (by simp [hq]))))
  rename (_ < _ ∧ Dc < _ ∧ _) => l5
  rename (Dc < _ ∧ _) => l4
  obtain ⟨nw2, Nw2, off2, le2, U2⟩ := refit F5 (x := Str.ofString "script") rfl (fun q hq => N5 q (by simp [hq])) (ownOff_cons l4.2.2.2.2.2.2 off) (fun b hb => by
    rcases List.mem_cons.mp hb with rfl | hb
    · exact cw.1
    · rw [List.mem_singleton.mp hb]; exact c3.1)
  have Vg := U2 g _ V5 (fun b hb => .inl (by
    rcases List.mem_cons.mp hb with rfl | hb
    · exact cw.2
    · rw [List.mem_singleton.mp hb]; exact c3.2))
  have Va := V1.mono le2
  have N6 := nwS (nwT N5) fun N => nwS N fun N => nwS N fun N => nwS N fun N => nwS N fun N => nwS N fun N => nwS N fun _ => Nw2
  clear N5 Nw2 U2 le2 V1 V5 c3 cw l5 off hI4
  k_steps
  refine wpAny_execs_nil (env := lawEnv L f cd) ?_
  rename (_ < _ ∧ _ < _ ∧ Dc < _ ∧ _) => lB
  rename (_ < _ ∧ Dc < _ ∧ _) => lA
  rename Fr _ _ _ _ => F7
  rename News _ _ _ _ => N7
  exact h _ _ _ _ _ _ a1 g d _ nw2 F7 ⟨rfl, rfl, rfl, rfl, rfl, rfl, rfl, rfl, trivial⟩ N7 (ownOff_cons lB.2.2.2.2.2.2.2.2 (ownOff_cons lA.2.2.2.2.2.2.2 off2)) ⟨l4.1, lA.1, lB.1⟩ hd0 hd1' Va Vg
end
end
section
theorem fillGrow : (fun (_ : OpenLaw) (_ : Params → Frag) => True) PySem.Challenge.rw_nc0018_01 hd.heap_1 := by
  k_fill
  exact True.intro
section
variable {w : World} {A : Around} {E : Value → Shared → Prop} {s : Shared} {Q : Value → Shared → Prop} {mg mb : Str → Option Value} {p : Program} {loose : List Str}
local macro_rules | `(tactic| walk_at "subscriptTail Name Constant ref int") => `(tactic| (k_here; k_dflt (refine' item_heap ?l ?a ?b ?hx ?_; (case l => kmk_list); (case a => omega); (case b => omega); (case hx => exact rfl))))
local macro_rules | `(tactic| walk_at "ite") => `(tactic| first | with_reducible refine ite_tt ?_ | with_reducible refine ite_ff ?_ | (with_reducible refine ite_dT ?h ?_; (case h => assumption)) | (with_reducible refine ite_dF ?h ?_; (case h => assumption)) | (with_reducible refine ite_qT ?h ?_; (case h => assumption)) | (with_reducible refine ite_qF ?h ?_; (case h => assumption)) | (with_reducible refine ite_bT ?h ?_; (case h => assumption)) | (with_reducible refine ite_bF ?h ?_; (case h => assumption)))
local macro_rules | `(tactic| k_inst) => `(tactic| exact instLg2 (by k_asm) (by k_asm) (by k_asm) (by k_asm) (fun p hp => List.Mem.tail _ (List.mem_append_right _ hp)))
theorem ints_at {vs : List Value} {ns : List Int} (h : IntsAre vs ns) : ∀ {i : Nat} {v : Value}, vs[i]? = some v → ∃ z t, v = .int z t ∧ ns[i]? = some z := by
  induction h with
  | nil => intro i v hv; simp at hv
  | cons n t _ ih =>
    intro i v hv
    cases i with
    | zero => simp only [List.getElem?_cons_zero, Option.some.injEq] at hv; exact ⟨n, t, hv.symm, rfl⟩
    | succ i => exact ih (by simpa using hv)
theorem HasC.put {m : Str → Option Value} {x : Str} {v : Option Value} : ∀ {ps : List (Str × Value)}, HasC m ps → (∀ p ∈ ps, p.1 ≠ x) → HasC (fun y => if y = x then v else m y) ps
  | [], _, _ => trivial
  | p :: _, ⟨h, r⟩, ne => ⟨by show (if p.1 = x then v else m p.1) = _; rw [if_neg (ne p (.head _))]; exact h, r.put fun q hq => ne q (.tail _ hq)⟩
theorem exOk_cons {h₀ h h' : Heap} {L I : Addr} {o : Obj} {news : List (Addr × Obj)} {ex : List Addr} (ok : ExOk h₀ h h' ex) (N : News h₀ L h news) (S : Stay h h') (hb : (I, o) ∈ news) (hd : ∃ v, o.data = .fields v) : ExOk h₀ h h' (I :: ex) := ⟨exIter N S hb hd, ok⟩
def namesOff : List (Str × Value) → Bool
  | [] => true
  | q :: r => (decide (q.1 ≠ Str.ofString "grown") && decide (q.1 ≠ Str.ofString "item")) && namesOff r
theorem namesOff_at : ∀ {names : List (Str × Value)}, namesOff names = true → ∀ q ∈ names, q.1 ≠ Str.ofString "grown" ∧ q.1 ≠ Str.ofString "item" := by
  intro names
  induction names with
  | nil => intro _ q hq; cases hq
  | cons r rs ih =>
    intro h q hq
    simp only [namesOff, Bool.and_eq_true, decide_eq_true_eq] at h
    rcases List.mem_cons.mp hq with rfl | hq
    · exact h.1
    · exact ih h.2 q hq
abbrev gbody (p1 p2 p3 p4 p5 p6 : Pos) : List Stmt := [.Assign [.Name (Str.ofString "grown") p1] (.Call (.Attribute (.Name (Str.ofString "grown") p2) (Str.ofString "append") p3) [.Name (Str.ofString "item") p4] [] p5) p6]
theorem allNe_app {d : Addr} : ∀ {a b : List (Addr × Obj)}, AllNe d (a ++ b) → AllNe d b
  | [], _, h => h
  | _ :: _, _, h => allNe_app h.2
theorem grow_loop1 {L f g Dp : Addr} {cd : Value} {h₀ : Heap} {pv : List Value} {ps ys : List Int} {lits nw : List (Addr × Obj)} {ex : List Addr} {names : List (Str × Value)} {m : Str → Option Value} {Q : Flow → Shared → Prop}
    (X : (hd.heap_1 w.params).In h₀) (T : TopRead p loose mg mb h₀) (R : Room A 20) (F : Fr h₀ L s.heap m) (H : HasC m ((Str.ofString "grown", .ref g) :: names)) (hnm : namesOff names = true)
    (N : News h₀ L s.heap (lits ++ nw)) (hDp : (Dp, listOf pv.toArray 0) ∈ lits) (off : OwnOff nw ex) (hI : IntsAre pv ps) (hbig : ys.length + ps.length ≤ 1900) (V : PVec (Lg h₀ nw) g ys)
    (hok : ∀ h₁ h₂ m₁ nw₁ news₁, Fr h₀ L h₁ m₁ → News h₀ L h₁ news₁ → (∀ q ∈ lits ++ nw₁, q ∈ news₁) → Le (Lg h₀ nw) (Lg h₀ nw₁) → Stay h₁ h₂ → ExOk h₀ h₁ h₂ ex)
    (done : ∀ h' tk m' g' nw', Fr h₀ L h' m' → HasC m' ((Str.ofString "grown", .ref g') :: names) → News h₀ L h' (lits ++ nw') → OwnOff nw' ex → Le (Lg h₀ nw) (Lg h₀ nw') → PVec (Lg h₀ nw') g' (ys ++ ps) → Q .next { s with heap := h', toks := tk }) :
    wpAny (model prg w) A (pyIter (.ref Dp)) (fun it s₂ => LoopAtV prg w A h₀ (lawEnv L f cd) (Str.ofString "item") (gbody ⟨242, 16, 242, 21⟩ ⟨242, 24, 242, 29⟩ ⟨242, 24, 242, 36⟩ ⟨242, 37, 242, 41⟩ ⟨242, 24, 242, 42⟩ ⟨242, 16, 242, 42⟩) Q (fun _ _ => False) it s₂) (fun _ _ => False) s := by
  obtain ⟨hA, dp, fr, gd, un⟩ := A
  obtain rfl : hA = none := R.handled
  have hvl := hI.length
  replace hnm := namesOff_at hnm
  refine iter_ledO (l := Dp) (vs := pv) (k := 0) (fun i m nx => ∃ g nw', HasC m ((Str.ofString "grown", .ref g) :: names) ∧ nx = lits ++ nw' ∧ OwnOff nw' ex ∧ Le (Lg h₀ nw) (Lg h₀ nw') ∧ PVec (Lg h₀ nw') g (ys ++ ps.take i)) rfl (fun i m nx hj => ?_) F N ⟨g, nw, H, rfl, off, fun _ _ e => e, by simpa using V⟩ ?_ ?_
  · obtain ⟨g, nw', _, rfl, _⟩ := hj
    exact .inr (List.mem_append_left _ hDp)
  · rintro i v m2 nx h5 tk5 I o hv ⟨g2, nw2, H2, rfl, off2, le2, V3⟩ ne hfs F5 N5
    obtain ⟨z, tz, rfl, hz⟩ := ints_at hI hv
    have hil : i < ps.length := (List.getElem?_eq_some_iff.mp hz).1
    clear F N
    replace F5 := frHas1 F5 (ps := [(Str.ofString "grown", .ref g2)]) ⟨H2.1, trivial⟩
    simp only [ifs] at F5
    have PV := V3
    obtain ⟨dx, tc, r, n, ts, t, to, ys', zs', vs', V3, hys⟩ := V3
    have ho := V3.obj
    have hdd := V3.dict
    have offI := ownOff_ne (allNe_app ne) off2
    k_steps
    rename Fr _ _ _ _ => F6
    rename News _ _ _ _ => N6
    refine append_spec (X.keeps F6.keep) (T.keeps F6.keep) (R.less (by omega)) (PV.mono (subLg F6 N6 (fun q hq => .tail _ (List.mem_append_right _ hq)))) (by simp only [List.length_append, List.length_take]; omega) (fun h7 tk7 g3 S7 V7 => ?_)
    obtain ⟨nw3, Nw3, off3, le3, V8⟩ := refitX (x := Str.ofString "item") F6 rfl S7 N6 (fun q hq => .tail _ (List.mem_append_right _ hq)) offI (exOk_cons (hok _ _ _ nw2 _ F6 N6 (fun q hq => .tail _ hq) le2 S7) N6 S7 (.head _) hfs) PV V7.vec (.inr V7.tailNew)
    have F7 := frStay F6 S7
    have N7 : News h₀ L h7 ((I, o) :: (lits ++ nw3)) := nwS (newsStay N6 S7) fun N => newsApp (fun q hq => N q (List.mem_append_left _ hq)) Nw3
    clear F6 N6 ho hdd
    k_steps
    rename Fr _ _ _ _ => F9
    rename News _ _ _ _ => N9
    refine TurnEnd.intro F9 N9 (fun q hq => (List.mem_append.mp hq).elim (fun e => allNe_mem ne q (List.mem_append_left _ e)) fun e => off3 q e I (.head _)) ⟨g3, nw3, ⟨rfl, ?_⟩, rfl, fun q hq b hb => off3 q hq b (.tail _ hb), fun _ _ e => le3 _ _ (le2 _ _ e), ?_⟩
    · exact ((H2.2.put fun q hq => (hnm q hq).1).put fun q hq => (hnm q hq).2).put fun q hq => (hnm q hq).1
    · rw [List.take_succ, hz, ← List.append_assoc]
      exact V8
  · rintro m2 nx h5 tk5 ⟨g2, nw2, H2, rfl, off2, le2, V3⟩ F5 N5
    rw [hvl, List.take_length] at V3
    exact done _ _ _ _ _ F5 H2 N5 off2 le2 V3
theorem grow_loop2 {L f g Dp : Addr} {cd : Value} {h₀ : Heap} {pv : List Value} {ps ys : List Int} {lits nw : List (Addr × Obj)} {ex : List Addr} {names : List (Str × Value)} {m : Str → Option Value} {Q : Flow → Shared → Prop}
    (X : (hd.heap_1 w.params).In h₀) (T : TopRead p loose mg mb h₀) (R : Room A 20) (F : Fr h₀ L s.heap m) (H : HasC m ((Str.ofString "grown", .ref g) :: names)) (hnm : namesOff names = true)
    (N : News h₀ L s.heap (lits ++ nw)) (hDp : (Dp, listOf pv.toArray 0) ∈ lits) (off : OwnOff nw ex) (hI : IntsAre pv ps) (hbig : ys.length + ps.length ≤ 1900) (V : PVec (Lg h₀ nw) g ys)
    (hok : ∀ h₁ h₂ m₁ nw₁ news₁, Fr h₀ L h₁ m₁ → News h₀ L h₁ news₁ → (∀ q ∈ lits ++ nw₁, q ∈ news₁) → Le (Lg h₀ nw) (Lg h₀ nw₁) → Stay h₁ h₂ → ExOk h₀ h₁ h₂ ex)
    (done : ∀ h' tk m' g' nw', Fr h₀ L h' m' → HasC m' ((Str.ofString "grown", .ref g') :: names) → News h₀ L h' (lits ++ nw') → OwnOff nw' ex → Le (Lg h₀ nw) (Lg h₀ nw') → PVec (Lg h₀ nw') g' (ys ++ ps) → Q .next { s with heap := h', toks := tk }) :
    wpAny (model prg w) A (pyIter (.ref Dp)) (fun it s₂ => LoopAtV prg w A h₀ (lawEnv L f cd) (Str.ofString "item") (gbody ⟨251, 8, 251, 13⟩ ⟨251, 16, 251, 21⟩ ⟨251, 16, 251, 28⟩ ⟨251, 29, 251, 33⟩ ⟨251, 16, 251, 34⟩ ⟨251, 8, 251, 34⟩) Q (fun _ _ => False) it s₂) (fun _ _ => False) s := by
  obtain ⟨hA, dp, fr, gd, un⟩ := A
  obtain rfl : hA = none := R.handled
  have hvl := hI.length
  replace hnm := namesOff_at hnm
  refine iter_ledO (l := Dp) (vs := pv) (k := 0) (fun i m nx => ∃ g nw', HasC m ((Str.ofString "grown", .ref g) :: names) ∧ nx = lits ++ nw' ∧ OwnOff nw' ex ∧ Le (Lg h₀ nw) (Lg h₀ nw') ∧ PVec (Lg h₀ nw') g (ys ++ ps.take i)) rfl (fun i m nx hj => ?_) F N ⟨g, nw, H, rfl, off, fun _ _ e => e, by simpa using V⟩ ?_ ?_
  · obtain ⟨g, nw', _, rfl, _⟩ := hj
    exact .inr (List.mem_append_left _ hDp)
  · rintro i v m2 nx h5 tk5 I o hv ⟨g2, nw2, H2, rfl, off2, le2, V3⟩ ne hfs F5 N5
    obtain ⟨z, tz, rfl, hz⟩ := ints_at hI hv
    have hil : i < ps.length := (List.getElem?_eq_some_iff.mp hz).1
    clear F N
    replace F5 := frHas1 F5 (ps := [(Str.ofString "grown", .ref g2)]) ⟨H2.1, trivial⟩
    simp only [ifs] at F5
    have PV := V3
    obtain ⟨dx, tc, r, n, ts, t, to, ys', zs', vs', V3, hys⟩ := V3
    have ho := V3.obj
    have hdd := V3.dict
    have offI := ownOff_ne (allNe_app ne) off2
    k_steps
    rename Fr _ _ _ _ => F6
    rename News _ _ _ _ => N6
    refine append_spec (X.keeps F6.keep) (T.keeps F6.keep) (R.less (by omega)) (PV.mono (subLg F6 N6 (fun q hq => .tail _ (List.mem_append_right _ hq)))) (by simp only [List.length_append, List.length_take]; omega) (fun h7 tk7 g3 S7 V7 => ?_)
    obtain ⟨nw3, Nw3, off3, le3, V8⟩ := refitX (x := Str.ofString "item") F6 rfl S7 N6 (fun q hq => .tail _ (List.mem_append_right _ hq)) offI (exOk_cons (hok _ _ _ nw2 _ F6 N6 (fun q hq => .tail _ hq) le2 S7) N6 S7 (.head _) hfs) PV V7.vec (.inr V7.tailNew)
    have F7 := frStay F6 S7
    have N7 : News h₀ L h7 ((I, o) :: (lits ++ nw3)) := nwS (newsStay N6 S7) fun N => newsApp (fun q hq => N q (List.mem_append_left _ hq)) Nw3
    clear F6 N6 ho hdd
    k_steps
    rename Fr _ _ _ _ => F9
    rename News _ _ _ _ => N9
    refine TurnEnd.intro F9 N9 (fun q hq => (List.mem_append.mp hq).elim (fun e => allNe_mem ne q (List.mem_append_left _ e)) fun e => off3 q e I (.head _)) ⟨g3, nw3, ⟨rfl, ?_⟩, rfl, fun q hq b hb => off3 q hq b (.tail _ hb), fun _ _ e => le3 _ _ (le2 _ _ e), ?_⟩
    · exact ((H2.2.put fun q hq => (hnm q hq).1).put fun q hq => (hnm q hq).2).put fun q hq => (hnm q hq).1
    · rw [List.take_succ, hz, ← List.append_assoc]
      exact V8
  · rintro m2 nx h5 tk5 ⟨g2, nw2, H2, rfl, off2, le2, V3⟩ F5 N5
    rw [hvl, List.take_length] at V3
    exact done _ _ _ _ _ F5 H2 N5 off2 le2 V3
end
end
section
variable {prog : Program} {w : World} {A : Around} {E : Value → Shared → Prop} {s : Shared} {K : Frag} {x C L f q : Addr} {h₀ : Heap} {m : Str → Option Value} {ox : Obj} {od : Option Obj}
theorem add_tup {vs : List Value} {k : Nat} {Q : Value → Shared → Prop} (F : Fr h₀ L s.heap m) (X₀ : K.In h₀) (I : InstAt s.heap x ox C od) (hq : s.heap.get? q = some (tupOf vs k)) (hc : selfFirst K C = true)
    (hs : findIn K (.ref C) (PySem.dunder "add") = some (some (.ref f))) (hf : isFn K (.ref f) = true)
    (h : wpAny (model prog w) A (call (.ref f) [.ref x, .ref q]) (W.CmpBack Q) E s) : wpAny (model prog w) A (binaryOp .Add (.ref x) (.ref q)) Q E s := by
  have X := X₀.keeps F.keep
  obtain ⟨cd, hcd, hm⟩ := any_some hc
  obtain ⟨rest, hm⟩ : ∃ rest, cd.mro = .ref C :: rest := by
    cases q : cd.mro with
    | nil => rw [q] at hm; cases hm
    | cons a r => rw [q] at hm; exact ⟨r, by rw [List.head?_cons] at hm; cases (beq_iff_eq.mp hm); rfl⟩
  have hb : Looks (model prog w) s.heap (typeOf (.ref q)) (.type "tuple") := (Looks.ld hq).andThen .now
  have hne : (Value.ref C == Value.type "tuple") = false := Bool.eq_false_iff.mpr fun q => by cases beq_iff_eq.mp q
  unfold binaryOp
  refine wpAny_holding (wpAny_bind ?_)
  unfold binaryOp1
  refine wpAny_bind (I.type.here (wpAny_bind (hb.here (wpAny_bind ((fills_K X hcd hm hs).here ?_)))))
  simp -zeta -zetaHave only [hne, Bool.false_eq_true, if_false]
  refine wpAny_bind (wpAny_of_eq noFill_tuple_add ?_)
  simp -zeta -zetaHave only [Bool.and_false, Bool.false_eq_true, if_false, Bool.false_and]
  refine wpAny_bind (wpAny_pure ?_)
  simp -zeta -zetaHave only [Bool.false_eq_true, if_false, if_true]
  refine wpAny_bind (m := tryMethod (.ref x) _ (.ref q)) ?_
  unfold tryMethod
  refine wpAny_bind (special_fn X I hs (beq_iff_eq.mp hf) (wpAny_mono h (fun v s' hv => ?_) fun _ _ e => e))
  cases v <;> first | exact hv.elim | exact wpAny_pure (wpAny_pure (wpAny_pure hv))
end
section G3
local macro_rules | `(tactic| walk_at "subscriptTail Name Constant ref int") => `(tactic| (k_here; k_dflt (refine' item_heap ?l ?a ?b ?hx ?_; (case l => kmk_list); (case a => omega); (case b => omega); (case hx => exact rfl))))
local macro_rules | `(tactic| walk_at "ite") => `(tactic| first | with_reducible refine ite_tt ?_ | with_reducible refine ite_ff ?_ | (with_reducible refine ite_dT ?h ?_; (case h => assumption)) | (with_reducible refine ite_dF ?h ?_; (case h => assumption)) | (with_reducible refine ite_qT ?h ?_; (case h => assumption)) | (with_reducible refine ite_qF ?h ?_; (case h => assumption)) | (with_reducible refine ite_bT ?h ?_; (case h => assumption)) | (with_reducible refine ite_bF ?h ?_; (case h => assumption)))
local macro_rules | `(tactic| walk_at "call builtin:list.append") => `(tactic| (k_here; k_dflt (refine' append_LK ?k1 ?k2 ?k3 ?z ?_; (case k1 => k_asm); (case k2 => k_asm); (case k3 => k_upd); (case z => (first | assumption | omega)); k_whole); intro h' F' N'; (try k_sweep)))
local macro_rules | `(tactic| k_inst) => `(tactic| exact instLg2 (by k_asm) (by k_asm) (by k_asm) (by k_asm) (by intro p hp; k_ownIn))
section
theorem fillL4 : (fun (_ : OpenLaw) (_ : Params → Frag) => True) PySem.Challenge.rw_nc0018_01 hd.heap_1 := by
  k_fill
  exact True.intro
section
variable {w : World} {A : Around} {E : Value → Shared → Prop} {s : Shared} {Q : Value → Shared → Prop} {mg mb : Str → Option Value} {p : Program} {loose : List Str}
local macro_rules | `(tactic| k_ne) => `(tactic| (refine neN ?_; (try dsimp only); first | with_reducible assumption | (refine Ne.symm ?_; with_reducible assumption)))
local macro_rules | `(tactic| walk_at "exec For Name Subscript cons nil") => `(tactic| (k_here; refine held_gen ?_; intro T9 hT9))
local macro_rules | `(tactic| walk_at "exec For Name Name cons nil") => `(tactic| (k_here; refine held_gen ?_; intro T9 hT9))
local macro_rules | `(tactic| walk_at "pyIter ref") => `(tactic| (k_here; refine held_gen ?_; intro T9 hT9))
/-- between the turns of growing -/
def GJ (h₀ : Heap) (L D Dr Dc Dw Dm Dl Dn a1 : Addr) (lits : List (Addr × Obj)) (nv : List Value) (n1 : Int) (t1 : Tok) (xs : List Int) (i : Nat) (m : Str → Option Value) (nx : List (Addr × Obj)) : Prop :=
  ∃ (g : Addr) (d : Int) (td : Tok) (ms lv : List Value) (ls : List Int) (km kl : Nat) (nw : List (Addr × Obj)), HasC m [(Str.ofString "lengths", .ref Dl), (Str.ofString "met", .ref Dm), (Str.ofString "grown", .ref g), (Str.ofString "done", .int d td), (Str.ofString "ways", .ref Dw), (Str.ofString "chosen", .ref Dc), (Str.ofString "more", .int n1 t1), (Str.ofString "numbers", .ref D)] ∧
    nx = (Dn, listOf nv.toArray 0) :: (Dl, listOf lv.toArray kl) :: (Dm, listOf ms.toArray km) :: (Dw, listOf (List.toArray [.ref a1]) 0) :: lits ++ nw ∧ OwnOff nw [Dl, Dm, Dw, L + 1 + 1 + 1] ∧ IntsAre lv ls ∧ Met (Lg h₀ nw) xs ms ls ∧ ls.length = i + 1 ∧ 0 ≤ d ∧ d ≤ xs.length ∧ PVec (Lg h₀ nw) g (xs.take d.toNat) ∧ PVec (Lg h₀ nw) a1 xs
theorem len_td {k j : Nat} {xs ps : List Int} (h : List.take k (List.drop j xs) = ps) : ps.length ≤ xs.length - j := by
  rw [← h, List.length_take, List.length_drop]
  exact Nat.min_le_right _ _
theorem bnd_td {d x p : Nat} (h : p ≤ x - d) (hx : x ≤ 1060) : min d x + p ≤ 1060 := by omega
theorem allNe_off {d : Addr} {ex : List Addr} : ∀ {nw : List (Addr × Obj)}, OwnOff nw (d :: ex) → AllNe d nw
  | [], _ => trivial
  | q :: _, h => ⟨h q (.head _) d (.head _), allNe_off fun p hp => h p (.tail _ hp)⟩
theorem GJ_end {h₀ : Heap} {L I D Dr Dc Dw Dm Dl Dn a1 g : Addr} {lits nw0 nw : List (Addr × Obj)} {nv lv ms : List Value} {n1 d : Int} {t1 tk tk2 : Tok} {xs ls ps : List Int} {i k kl km : Nat} {m : Str → Option Value} (H : HasC m [(Str.ofString "lengths", .ref Dl), (Str.ofString "met", .ref Dm), (Str.ofString "grown", .ref g), (Str.ofString "done", .int (d + (ps.length : Int)) tk), (Str.ofString "ways", .ref Dw), (Str.ofString "chosen", .ref Dc), (Str.ofString "more", .int n1 t1), (Str.ofString "numbers", .ref D)]) (off : OwnOff nw [I, Dl, Dm, Dw, L + 1 + 1 + 1]) (hls : IntsAre lv ls) (hmet : Met (Lg h₀ nw0) xs ms ls) (hll : ls.length = i + 1) (d0 : 0 ≤ d) (d1 : d ≤ xs.length) (V1 : PVec (Lg h₀ nw0) a1 xs) (le : Le (Lg h₀ nw0) (Lg h₀ nw)) (V : PVec (Lg h₀ nw) g (xs.take d.toNat ++ ps)) (hps : List.take k (List.drop d.toNat xs) = ps) :
    GJ h₀ L D Dr Dc Dw Dm Dl Dn a1 lits nv n1 t1 xs (i + 1) m ((Dn, listOf nv.toArray 0) :: (Dl, listOf (lv ++ [Value.int (d + (ps.length : Int)) tk2]).toArray (kl + 1)) :: (Dm, listOf (ms ++ [Value.ref g]).toArray (km + 1)) :: (Dw, listOf (List.toArray [Value.ref a1]) 0) :: lits ++ nw) := by
  have hpl : ps.length ≤ xs.length - d.toNat := by rw [← hps]; simp only [List.length_take, List.length_drop]; omega
  have e : xs.take d.toNat ++ ps = xs.take (d + (ps.length : Int)).toNat := by
    rw [show (d + (ps.length : Int)).toNat = d.toNat + ps.length by omega, List.take_add, ← hps, List.append_cancel_left_eq, List.length_take]
    rw [List.take_eq_take_iff]
    simp only [List.length_drop]
    omega
  rw [e] at V
  exact ⟨g, _, tk, _, _, ls ++ [d + (ps.length : Int)], _, _, nw, H, rfl, fun p hp b hb => off p hp b (.tail _ hb), hls.append (.cons _ _ .nil), (hmet.mono le).snoc (by omega) (by omega) V, by simp [hll], by omega, by omega, V, V1.mono le⟩
theorem seg_3 {L f D Dr Dc Dw Dm Dl a1 g : Addr} {cd : Value} {h₀ : Heap} {wr ys cs : List Value} {nr xs : List Int} {n0 n1 n2 d : Int} {t0 t1 t2 tz td : Tok} {o1 o2 o3 : Obj} {kr : Nat} {nw : List (Addr × Obj)} {m : Str → Option Value} {Q : Flow → Shared → Prop}
    (X : (hd.heap_1 w.params).In h₀) (T : TopRead p loose mg mb h₀) (R : Room A 20)
    (F : Fr h₀ L s.heap m) (H : HasC m [(Str.ofString "lengths", .ref Dl), (Str.ofString "met", .ref Dm), (Str.ofString "grown", .ref g), (Str.ofString "done", .int d td), (Str.ofString "ways", .ref Dw), (Str.ofString "chosen", .ref Dc), (Str.ofString "more", .int n1 t1), (Str.ofString "numbers", .ref D)]) (N : News h₀ L s.heap ((Dl, listOf (List.toArray [.int d td]) 0) :: (Dm, listOf (List.toArray [.ref g]) 0) :: (Dw, listOf (List.toArray [.ref a1]) 0) :: (Dc, listOf (List.toArray cs) 0) :: (Dr, listOf (List.toArray ys) kr) :: (D, listOf (List.toArray (.int n0 t0 :: .int n1 t1 :: .int n2 t2 :: wr)) 0) :: (L + 1 + 1 + 1, o3) :: (L + 1 + 1, o2) :: (L + 1, o1) :: nw)) (off : OwnOff nw [Dl, Dm, Dw, L + 1 + 1 + 1])
    (hd1 : o1.data = .cell (some (.int (xs.length : Int) tz))) (hd2 : o2.data = .cell (some (.ref Dr))) (hd3 : o3.data = .cell none)
    (hI : IntsAre ys xs) (hx : xs.length ≤ 1060) (hr : IntsAre wr nr) (hr2 : nr.length ≤ 65) (lt : @LT.lt Nat _ (L + 1 + 1 + 1) (D) ∧ @LT.lt Nat _ (D) (Dr) ∧ @LT.lt Nat _ (Dr) (Dc) ∧ @LT.lt Nat _ (Dc) (Dw) ∧ @LT.lt Nat _ (Dw) (Dm) ∧ @LT.lt Nat _ (Dm) (Dl)) (d0 : 0 ≤ d) (d1 : d ≤ xs.length) (V1 : PVec (Lg h₀ nw) a1 xs) (V2 : PVec (Lg h₀ nw) g (xs.take d.toNat))
    (h : ∀ h' tk m' g' (d' : Int) td' ms lv ls km kl nw', Fr h₀ L h' m' → HasC m' [(Str.ofString "lengths", .ref Dl), (Str.ofString "met", .ref Dm), (Str.ofString "grown", .ref g'), (Str.ofString "done", .int d' td'), (Str.ofString "ways", .ref Dw), (Str.ofString "chosen", .ref Dc), (Str.ofString "more", .int n1 t1), (Str.ofString "numbers", .ref D)] →
      News h₀ L h' ((Dl, listOf lv.toArray kl) :: (Dm, listOf ms.toArray km) :: (Dw, listOf (List.toArray [.ref a1]) 0) :: (Dc, listOf (List.toArray cs) 0) :: (Dr, listOf (List.toArray ys) kr) :: (D, listOf (List.toArray (.int n0 t0 :: .int n1 t1 :: .int n2 t2 :: wr)) 0) :: (L + 1 + 1 + 1, o3) :: (L + 1 + 1, o2) :: (L + 1, o1) :: nw') → OwnOff nw' [Dl, Dm, Dw, L + 1 + 1 + 1] → IntsAre lv ls → Met (Lg h₀ nw') xs ms ls → 0 < ls.length → ls.length ≤ 6 → 0 ≤ d' → d' ≤ xs.length → PVec (Lg h₀ nw') g' (xs.take d'.toNat) → PVec (Lg h₀ nw') a1 xs → Q .next { s with heap := h', toks := tk }) :
    wpAny (model prg w) A (execs (seg 11 12) (lawEnv L f cd)) Q (fun _ _ => False) s := by
  obtain ⟨hA, dp, fr, gd, un⟩ := A
  obtain rfl : hA = none := R.handled
  have F1 := frHas F H
  simp only [ifs] at F1
  clear F
  have hrl := hr.length
  k_steps
  rename (_ = exec _ _) => hT9
  subst hT9
  refine For_invVF F1 rfl rfl ?_
  have hI2 : IntsAre (.int n0 t0 :: .int n1 t1 :: .int n2 t2 :: wr) (n0 :: n1 :: n2 :: nr) := .cons _ _ (.cons _ _ (.cons _ _ hr))
  k_steps
  rename (_ = pyIter _) => hT9
  subst hT9
  rename Fr _ _ _ _ => F2
  rename News _ _ _ _ => N2
  rename (Dl < _ ∧ _) => l2
  rename IntsAre _ (List.take _ (List.drop _ (_ :: _))) => hI3
  generalize hnn : List.take _ (List.drop _ (n0 :: _)) = nn at *
  have hnl : nn.length ≤ 5 := by rw [← hnn]; simp only [List.length_take]; omega
  clear hnn
  rename_i Dn nv h2 _ _
  refine iter_ledO (l := Dn) (vs := nv) (k := 0) (GJ h₀ L D Dr Dc Dw Dm Dl Dn a1 [(Dc, listOf (List.toArray cs) 0), (Dr, listOf (List.toArray ys) kr), (D, listOf (List.toArray (.int n0 t0 :: .int n1 t1 :: .int n2 t2 :: wr)) 0), (L + 1 + 1 + 1, o3), (L + 1 + 1, o2), (L + 1, o1)] nv n1 t1 xs) rfl (fun i m nx hj => ?_) F2 N2 ⟨g, d, td, _, _, _, 0, 0, nw, ⟨rfl, rfl, rfl, rfl, rfl, rfl, rfl, rfl, trivial⟩, rfl, off, .cons _ _ .nil, .cons d0 d1 V2 .nil, rfl, d0, d1, V2, V1⟩ ?_ ?_
  · obtain ⟨g, d, td, ms, lv, ls, km, kl, nw, _, rfl, _⟩ := hj
    exact .inr (.head _)
  · rintro i v m1 nx h3 tk3 I o hv ⟨g, d, td, ms, lv, ls, km, kl, nw, H, rfl, off, hls, hmet, hll, d0, d1, V2, V1⟩ ne hfs F3 N3
    obtain ⟨z, tz, rfl, _⟩ := ints_at hI3 hv
    clear F2 N2
    replace F3 := frHas1 F3 H
    simp only [ifs] at F3
    simp only [List.cons_append, List.nil_append] at N3 ne
    simp only [AllNe] at ne
    have neL : @Ne Nat Dl I := ne.2.1
    have neM : @Ne Nat Dm I := ne.2.2.1
    have hq0 : 0 ≤ z.fmod 34 := Int.fmod_nonneg_of_pos _ (by decide)
    have hq1 : z.fmod 34 < 34 := Int.fmod_lt_of_pos _ (by decide)
    have offI := ownOff_ne ne.2.2.2.2.2.2.2.2.2.2 off
    have hmm := hmet.mem (by omega)
    have hz5 : i < 5 := by have := (List.getElem?_eq_some_iff.mp hv).1; have := hI3.length; omega
    have hzm : ms.length ≤ 4000 := by have := hmet.length; omega
    have hzl : lv.length ≤ 4000 := by have := hls.length; omega
    have OK : ∀ h₁ h₂ m₁ nw₁ news₁, Fr h₀ L h₁ m₁ → News h₀ L h₁ news₁ → (∀ q ∈ (I, o) :: (Dn, listOf nv.toArray 0) :: (Dl, listOf lv.toArray kl) :: (Dm, listOf ms.toArray km) :: (Dw, listOf (List.toArray [.ref a1]) 0) :: (Dc, listOf (List.toArray cs) 0) :: (Dr, listOf (List.toArray ys) kr) :: (D, listOf (List.toArray (.int n0 t0 :: .int n1 t1 :: .int n2 t2 :: wr)) 0) :: (L + 1 + 1 + 1, o3) :: (L + 1 + 1, o2) :: (L + 1, o1) :: nw₁, q ∈ news₁) → Le (Lg h₀ nw) (Lg h₀ nw₁) → Stay h₁ h₂ → ExOk h₀ h₁ h₂ [I, Dl, Dm, Dw, L + 1 + 1 + 1] := by
      intro h₁ h₂ m₁ nw₁ news₁ F₁ N₁ sub le S
      obtain ⟨am, ym, hma, hmv⟩ := hmm
      have sb : ∀ q ∈ nw₁, q ∈ news₁ := fun q hq => sub q (by (iterate 11 apply List.Mem.tail); exact hq)
      exact ⟨exIter N₁ S (sub _ (by k_mem)) hfs, exInts N₁ S (sub _ (by k_mem)) hls (by omega) (by have := (List.getElem?_eq_some_iff.mp hv).1; have := hI3.length; omega), exRefs F₁ N₁ S (sub _ (by k_mem)) hma (hmv.mono le) sb, exRefs F₁ N₁ S (sub _ (by k_mem)) (.head _) (V1.mono le) sb, exCell N₁ S (sub _ (by k_mem)) hd3, trivial⟩
    have PV := V2
    obtain ⟨dx, tc, r, n, ts, t, to, ys', zs', vs', V2, hys⟩ := V2
    have ho := V2.obj
    have hdd := V2.dict
    by_cases hk0 : (z.fdiv 34).fmod 3 = 0
    · k_steps
      rename (_ = exec _ _) => hT9
      subst hT9
      rename Fr _ _ _ _ => F4
      rename News _ _ _ _ => N4
      rename (I < _ ∧ _) => l4
      rename IntsAre _ (List.take _ (List.drop d.toNat _)) => hI4
      generalize hps : List.take _ (List.drop d.toNat xs) = ps at *
      have hpl := len_td hps
      refine For_invVF F4 rfl rfl ?_
      k_steps
      rename (_ = pyIter _) => hT9
      subst hT9
      rename_i Dp pv h4 _ _ _
      refine grow_loop1 (lits := (Dp, listOf pv.toArray 0) :: (I, o) :: (Dn, listOf nv.toArray 0) :: (Dl, listOf lv.toArray kl) :: (Dm, listOf ms.toArray km) :: (Dw, listOf (List.toArray [.ref a1]) 0) :: (Dc, listOf (List.toArray cs) 0) :: (Dr, listOf (List.toArray ys) kr) :: (D, listOf (List.toArray (.int n0 t0 :: .int n1 t1 :: .int n2 t2 :: wr)) 0) :: (L + 1 + 1 + 1, o3) :: (L + 1 + 1, o2) :: (L + 1, o1) :: []) (nw := nw) (ex := [I, Dl, Dm, Dw, L + 1 + 1 + 1]) (names := [(Str.ofString "piece", .ref Dp), (Str.ofString "lengths", .ref Dl), (Str.ofString "met", .ref Dm), (Str.ofString "done", .int d td), (Str.ofString "ways", .ref Dw), (Str.ofString "chosen", .ref Dc), (Str.ofString "more", .int n1 t1), (Str.ofString "numbers", .ref D)]) X T R F4 ⟨rfl, rfl, rfl, rfl, rfl, rfl, rfl, rfl, rfl, trivial⟩ rfl N4 (.head _) offI hI4 (by rw [List.length_take]; exact Nat.le_trans (bnd_td hpl hx) (by decide)) PV (fun h₁ h₂ m₁ nw₁ news₁ F₁ N₁ sub le S => OK _ _ _ _ _ F₁ N₁ (fun q hq => sub q (.tail _ hq)) le S) (fun h5 tk5 m5 g5 nw5 F5 H5 N5 off5 le5 V5 => ?_)
      clear F4 N4 ho hdd
      replace F5 := frHas F5 H5
      simp only [ifs] at F5
      simp only [List.cons_append, List.nil_append] at N5
      k_steps
      rename Fr _ _ _ _ => F9
      rename News _ _ _ _ => N9
      exact TurnEnd.intro F9 (nwT N9) (allNe_mem (⟨ne.1, ne.2.1, ne.2.2.1, ne.2.2.2.1, ne.2.2.2.2.1, ne.2.2.2.2.2.1, ne.2.2.2.2.2.2.1, ne.2.2.2.2.2.2.2.1, ne.2.2.2.2.2.2.2.2.1, ne.2.2.2.2.2.2.2.2.2.1, allNe_off off5⟩)) (GJ_end (lits := [(Dc, listOf (List.toArray cs) 0), (Dr, listOf (List.toArray ys) kr), (D, listOf (List.toArray (.int n0 t0 :: .int n1 t1 :: .int n2 t2 :: wr)) 0), (L + 1 + 1 + 1, o3), (L + 1 + 1, o2), (L + 1, o1)]) (k := min (d + 1).toNat xs.length - d.toNat) ⟨rfl, rfl, rfl, rfl, rfl, rfl, rfl, rfl, trivial⟩ off5 hls hmet hll d0 d1 V1 le5 V5 hps)
    by_cases hk1 : (z.fdiv 34).fmod 3 = 1
    · k_steps
      rename Fr _ _ _ _ => F4
      rename News _ _ _ _ => N4
      rename (I < _ ∧ _) => l4
      rename IntsAre _ (List.take _ (List.drop d.toNat _)) => hI4
      generalize hps : List.take _ (List.drop d.toNat xs) = ps at *
      have hpl := len_td hps
      refine extend_spec (X.keeps F4.keep) (T.keeps F4.keep) (R.less (by omega)) (PV.mono (subLg F4 N4 (fun q hq => by k_ownIn))) ⟨0, N4.get (.head _)⟩ hI4 (by rw [List.length_take]; exact Nat.le_trans (bnd_td hpl hx) (by decide)) (fun h5 tk5 g5 S5 V5 ht => ?_)
      obtain ⟨nw5, Nw5, off5, le5, V5⟩ := refitX (x := Str.ofString "done") F4 rfl S5 N4 (fun q hq => by k_ownIn) offI (OK _ _ _ nw _ F4 N4 (fun q hq => .tail _ hq) (fun _ _ e => e) S5) PV V5 ht
      have F5 := frStay F4 S5
      have N5 := nwS (newsStay N4 S5) fun N => nwS N fun N => nwS N fun N => nwS N fun N => nwS N fun N => nwS N fun N => nwS N fun N => nwS N fun N => nwS N fun N => nwS N fun N => nwS N fun N => nwS N fun _ => Nw5
      clear F4 N4 ho hdd
      k_steps
      rename Fr _ _ _ _ => F9
      rename News _ _ _ _ => N9
      exact TurnEnd.intro F9 (nwT N9) (allNe_mem (⟨ne.1, ne.2.1, ne.2.2.1, ne.2.2.2.1, ne.2.2.2.2.1, ne.2.2.2.2.2.1, ne.2.2.2.2.2.2.1, ne.2.2.2.2.2.2.2.1, ne.2.2.2.2.2.2.2.2.1, ne.2.2.2.2.2.2.2.2.2.1, allNe_off off5⟩)) (GJ_end (lits := [(Dc, listOf (List.toArray cs) 0), (Dr, listOf (List.toArray ys) kr), (D, listOf (List.toArray (.int n0 t0 :: .int n1 t1 :: .int n2 t2 :: wr)) 0), (L + 1 + 1 + 1, o3), (L + 1 + 1, o2), (L + 1, o1)]) ⟨rfl, rfl, rfl, rfl, rfl, rfl, rfl, rfl, trivial⟩ off5 hls hmet hll d0 d1 V1 le5 V5 hps)
    · k_steps
      rename Fr _ _ _ _ => F4
      rename News _ _ _ _ => N4
      rename (I < _ ∧ _) => l4
      rename IntsAre _ (List.take _ (List.drop d.toNat _)) => hI4
      generalize hps : List.take _ (List.drop d.toNat xs) = ps at *
      have hpl := len_td hps
      refine' add_tup F4 X (K := hd.heap_1 w.params) (C := 303) (f := 99) ?k3 (N4.get (.head _)) ?k5 ?k6 ?k7 ?_
      (case k3 => k_inst)
      (case k5 => k_dflt k_is)
      (case k6 => k_dflt k_is)
      (case k7 => k_dflt k_is)
      refine add_spec (X.keeps F4.keep) (T.keeps F4.keep) (R.less (by omega)) (PV.mono (subLg F4 N4 (fun q hq => by k_ownIn))) (N4.get (.head _)) hI4 (by rw [List.length_take]; exact Nat.le_trans (bnd_td hpl hx) (by decide)) (fun h5 tk5 g5 S5 V5 ht => ?_)
      obtain ⟨nw5, Nw5, off5, le5, V5⟩ := refitX (x := Str.ofString "done") F4 rfl S5 N4 (fun q hq => by k_ownIn) offI (OK _ _ _ nw _ F4 N4 (fun q hq => .tail _ (.tail _ hq)) (fun _ _ e => e) S5) PV V5 ht
      have F5 := frStay F4 S5
      have N5 := nwS (nwT (newsStay N4 S5)) fun N => nwS N fun N => nwS N fun N => nwS N fun N => nwS N fun N => nwS N fun N => nwS N fun N => nwS N fun N => nwS N fun N => nwS N fun N => nwS N fun N => nwS N fun _ => Nw5
      clear F4 N4 ho hdd
      show wpAny _ _ _ _ _ _
      k_steps
      rename Fr _ _ _ _ => F9
      rename News _ _ _ _ => N9
      exact TurnEnd.intro F9 (nwT N9) (allNe_mem (⟨ne.1, ne.2.1, ne.2.2.1, ne.2.2.2.1, ne.2.2.2.2.1, ne.2.2.2.2.2.1, ne.2.2.2.2.2.2.1, ne.2.2.2.2.2.2.2.1, ne.2.2.2.2.2.2.2.2.1, ne.2.2.2.2.2.2.2.2.2.1, allNe_off off5⟩)) (GJ_end (lits := [(Dc, listOf (List.toArray cs) 0), (Dr, listOf (List.toArray ys) kr), (D, listOf (List.toArray (.int n0 t0 :: .int n1 t1 :: .int n2 t2 :: wr)) 0), (L + 1 + 1 + 1, o3), (L + 1 + 1, o2), (L + 1, o1)]) ⟨rfl, rfl, rfl, rfl, rfl, rfl, rfl, rfl, trivial⟩ off5 hls hmet hll d0 d1 V1 le5 V5 hps)
  · rintro m1 nx h3 tk3 ⟨g, d, td, ms, lv, ls, km, kl, nw, H, rfl, off, hls, hmet, hll, d0, d1, V2, V1⟩ F3 N3
    clear F2 N2
    simp only [List.cons_append, List.nil_append] at N3
    show wpAny _ _ _ _ _ _
    refine wpAny_execs_nil (env := lawEnv L f cd) ?_
    exact h _ _ _ _ _ _ _ _ _ _ _ _ F3 H (nwT N3) off hls hmet (by omega) (by have := hI3.length; omega) d0 d1 V2 V1
end
end
section
variable {h₀ h h' : Heap} {L : Addr} {m : Str → Option Value} {news nw : List (Addr × Obj)}
/-- what is no part of a vector at all -/
def ExN (h' : Heap) : List Addr → Prop
  | [] => True
  | b :: r => (NoPart h' b ∧ NoTail h' b) ∧ ExN h' r
theorem ExN.at : ∀ {ex : List Addr}, ExN h' ex → ∀ b ∈ ex, NoPart h' b ∧ NoTail h' b
  | _ :: _, ⟨a, r⟩, b, hb => (List.mem_cons.mp hb).elim (fun e => e ▸ a) fun hb => r.at b hb
theorem refitV {x : Str} {v : Value} {ex : List Addr} (F : Fr h₀ L h m) (hm : m x = some v) (S : Stay h h') (N : News h₀ L h news) (sub : ∀ p ∈ nw, p ∈ news) (off : OwnOff nw ex) (ok : ExN h' ex) :
    ∃ nw', News h₀ L h' nw' ∧ OwnOff nw' ex ∧ Le (Lg h₀ nw) (Lg h₀ nw') ∧ ∀ a ys, PVec (At h') a ys → PVec (Lg h₀ nw') a ys := by
  have Nw : News h₀ L h' nw := fun p hp => newsStay N S p (sub p hp)
  obtain ⟨nw', N', off', le, U⟩ := refit (frStay F S) hm Nw off fun b hb => (ok.at b hb).1
  exact ⟨nw', N', off', le, fun a ys V => U a ys V fun b hb => .inl (ok.at b hb).2⟩
theorem exNCell {b : Addr} {o : Obj} {v : Option Value} (N : News h₀ L h news) (S : Stay h h') (hb : (b, o) ∈ news) (hd : o.data = .cell v) : NoPart h' b ∧ NoTail h' b := cellNo (S _ _ (N.get hb)) hd
theorem exNIter {b : Addr} {o : Obj} (N : News h₀ L h news) (S : Stay h h') (hb : (b, o) ∈ news) (hd : ∃ v, o.data = .fields v) : NoPart h' b ∧ NoTail h' b := let ⟨_, hd⟩ := hd; iterNo (S _ _ (N.get hb)) hd
theorem exNCls {b : Addr} {o : Obj} {n : String} (N : News h₀ L h news) (S : Stay h h') (hb : (b, o) ∈ news) (hd : o.cls = .type n) (n1 : n ≠ "list") (n2 : n ≠ "dict") : NoPart h' b ∧ NoTail h' b := clsNo (S _ _ (N.get hb)) hd n1 n2
theorem exNRefs {a b : Addr} {vs : List Value} {k : Nat} {xs : List Int} (F : Fr h₀ L h m) (N : News h₀ L h news) (S : Stay h h') (sub : ∀ p ∈ nw, p ∈ news) (hb : (b, listOf vs.toArray k) ∈ news) (ha : Value.ref a ∈ vs) (V : PVec (Lg h₀ nw) a xs) : NoPart h' b ∧ NoTail h' b :=
  refsNo (S _ _ (N.get hb)) ha (V.mono fun _ _ e => S _ _ (subLg F N sub _ _ e))
end
section
theorem fillL5 : (fun (_ : OpenLaw) (_ : Params → Frag) => True) PySem.Challenge.rw_nc0018_01 hd.heap_1 := by
  k_fill
  exact True.intro
section
variable {w : World} {A : Around} {E : Value → Shared → Prop} {s : Shared} {Q : Value → Shared → Prop} {mg mb : Str → Option Value} {p : Program} {loose : List Str}
local macro_rules | `(tactic| walk_at "exec For Name Subscript cons nil") => `(tactic| (k_here; refine held_gen ?_; intro T9 hT9))
local macro_rules | `(tactic| walk_at "pyIter ref") => `(tactic| (k_here; refine held_gen ?_; intro T9 hT9))
theorem seg_4 {L f D Dr Dc Dw Dm Dl a1 g : Addr} {cd : Value} {h₀ : Heap} {wr ys cs ms lv : List Value} {xs ls : List Int} {n0 n1 n2 d : Int} {t0 t1 t2 tz td : Tok} {o1 o2 o3 : Obj} {kr km kl : Nat} {nw : List (Addr × Obj)} {m : Str → Option Value} {Q : Flow → Shared → Prop}
    (X : (hd.heap_1 w.params).In h₀) (T : TopRead p loose mg mb h₀) (R : Room A 20)
    (F : Fr h₀ L s.heap m) (H : HasC m [(Str.ofString "lengths", .ref Dl), (Str.ofString "met", .ref Dm), (Str.ofString "grown", .ref g), (Str.ofString "done", .int d td), (Str.ofString "ways", .ref Dw), (Str.ofString "chosen", .ref Dc), (Str.ofString "more", .int n1 t1), (Str.ofString "numbers", .ref D)]) (N : News h₀ L s.heap ((Dl, listOf lv.toArray kl) :: (Dm, listOf ms.toArray km) :: (Dw, listOf (List.toArray [.ref a1]) 0) :: (Dc, listOf (List.toArray cs) 0) :: (Dr, listOf (List.toArray ys) kr) :: (D, listOf (List.toArray (.int n0 t0 :: .int n1 t1 :: .int n2 t2 :: wr)) 0) :: (L + 1 + 1 + 1, o3) :: (L + 1 + 1, o2) :: (L + 1, o1) :: nw)) (off : OwnOff nw [Dl, Dm, Dw, L + 1 + 1 + 1])
    (hd1 : o1.data = .cell (some (.int (xs.length : Int) tz))) (hd2 : o2.data = .cell (some (.ref Dr))) (hd3 : o3.data = .cell none)
    (hI : IntsAre ys xs) (hx : xs.length ≤ 1060) (lt : @LT.lt Nat _ (L + 1 + 1 + 1) (D) ∧ @LT.lt Nat _ (D) (Dr) ∧ @LT.lt Nat _ (Dr) (Dc) ∧ @LT.lt Nat _ (Dc) (Dw) ∧ @LT.lt Nat _ (Dw) (Dm) ∧ @LT.lt Nat _ (Dm) (Dl)) (hls : IntsAre lv ls) (hmet : Met (Lg h₀ nw) xs ms ls) (hl0 : 0 < ls.length) (hl1 : ls.length ≤ 6) (d0 : 0 ≤ d) (d1 : d ≤ xs.length) (V2 : PVec (Lg h₀ nw) g (xs.take d.toNat)) (V1 : PVec (Lg h₀ nw) a1 xs)
    (h : ∀ h' tk m' ws kw nw', Fr h₀ L h' m' → HasC m' [(Str.ofString "lengths", .ref Dl), (Str.ofString "met", .ref Dm), (Str.ofString "ways", .ref Dw), (Str.ofString "chosen", .ref Dc), (Str.ofString "more", .int n1 t1), (Str.ofString "numbers", .ref D)] → News h₀ L h' ((Dl, listOf lv.toArray kl) :: (Dm, listOf ms.toArray km) :: (Dw, listOf ws.toArray kw) :: (Dc, listOf (List.toArray cs) 0) :: (Dr, listOf (List.toArray ys) kr) :: (D, listOf (List.toArray (.int n0 t0 :: .int n1 t1 :: .int n2 t2 :: wr)) 0) :: (L + 1 + 1 + 1, o3) :: (L + 1 + 1, o2) :: (L + 1, o1) :: nw') → OwnOff nw' [Dw, L + 1 + 1 + 1] → Met (Lg h₀ nw') xs ms ls → Vecs (Lg h₀ nw') ws xs → ws.length = 2 → Q .next { s with heap := h', toks := tk }) :
    wpAny (model prg w) A (execs (seg 12 14) (lawEnv L f cd)) Q (fun _ _ => False) s := by
  obtain ⟨hA, dp, fr, gd, un⟩ := A
  obtain rfl : hA = none := R.handled
  have F1 := frHas F H
  simp only [ifs] at F1
  clear F
  have hmm := hmet.mem (by omega)
  k_steps
  rename (_ = exec _ _) => hT9
  subst hT9
  refine For_invVF F1 rfl rfl ?_
  k_steps
  rename (_ = pyIter _) => hT9
  subst hT9
  rename Fr _ _ _ _ => F4
  rename News _ _ _ _ => N4
  rename (Dl < _ ∧ _) => l4
  rename IntsAre _ (List.drop d.toNat _) => hI4
  rename_i Dp pv h4 _ _
  refine grow_loop2 (lits := (Dp, listOf pv.toArray 0) :: (Dl, listOf lv.toArray kl) :: (Dm, listOf ms.toArray km) :: (Dw, listOf (List.toArray [.ref a1]) 0) :: (Dc, listOf (List.toArray cs) 0) :: (Dr, listOf (List.toArray ys) kr) :: (D, listOf (List.toArray (.int n0 t0 :: .int n1 t1 :: .int n2 t2 :: wr)) 0) :: (L + 1 + 1 + 1, o3) :: (L + 1 + 1, o2) :: (L + 1, o1) :: []) (nw := nw) (ex := [Dl, Dm, Dw, L + 1 + 1 + 1]) (names := [(Str.ofString "lengths", .ref Dl), (Str.ofString "met", .ref Dm), (Str.ofString "ways", .ref Dw), (Str.ofString "chosen", .ref Dc), (Str.ofString "more", .int n1 t1), (Str.ofString "numbers", .ref D)]) X T R F4 ⟨rfl, rfl, rfl, rfl, rfl, rfl, rfl, trivial⟩ rfl N4 (.head _) off hI4 (by simp only [List.length_take, List.length_drop]; omega) V2 (fun h₁ h₂ m₁ nw₁ news₁ F₁ N₁ sub le S => ?_) (fun h5 tk5 m5 g5 nw5 F5 H5 N5 off5 le5 V5 => ?_)
  · obtain ⟨am, ym, hma, hmv⟩ := hmm
    have sb : ∀ q ∈ nw₁, q ∈ news₁ := fun q hq => sub q (by (iterate 10 apply List.Mem.tail); exact hq)
    exact ⟨exInts N₁ S (sub _ (by k_mem)) hls (by omega) (by omega), exRefs F₁ N₁ S (sub _ (by k_mem)) hma (hmv.mono le) sb, exRefs F₁ N₁ S (sub _ (by k_mem)) (.head _) (V1.mono le) sb, exCell N₁ S (sub _ (by k_mem)) hd3, trivial⟩
  clear F4 N4
  rw [List.take_append_drop] at V5
  replace F5 := frHas F5 H5
  simp only [ifs] at F5
  simp only [List.cons_append, List.nil_append] at N5
  have hz1 : (List.length [Value.ref a1]) ≤ 4000 := by simp
  k_steps
  refine wpAny_execs_nil (env := lawEnv L f cd) ?_
  rename Fr _ _ _ _ => F7
  rename News _ _ _ _ => N7
  refine h _ _ _ _ _ _ F7 ⟨rfl, rfl, rfl, rfl, rfl, rfl, trivial⟩ (nwT N7) (fun q hq b hb => off5 q hq b (.tail _ (.tail _ hb))) (hmet.mono le5) ?_ rfl
  exact Vecs.snoc (fun v hv => ⟨a1, List.mem_singleton.mp hv, V1.mono le5⟩) V5
end
end
theorem fillL6 : (fun (_ : OpenLaw) (_ : Params → Frag) => True) PySem.Challenge.rw_nc0018_01 hd.heap_1 := by
  k_fill
  exact True.intro
section
variable {w : World} {A : Around} {E : Value → Shared → Prop} {s : Shared} {Q : Value → Shared → Prop} {mg mb : Str → Option Value} {p : Program} {loose : List Str}

theorem seg_5 {L f D Dr Dc Dw Dm Dl : Addr} {cd : Value} {h₀ : Heap} {wr ys cs ms lv ws : List Value} {xs ls chs nr : List Int} {n0 n1 n2 : Int} {t0 t1 t2 tz : Tok} {o1 o2 o3 : Obj} {kr km kl kw : Nat} {nw : List (Addr × Obj)} {m : Str → Option Value} {Q : Flow → Shared → Prop}
    (X : (hd.heap_1 w.params).In h₀) (T : TopRead p loose mg mb h₀) (R : Room A 20)
    (F : Fr h₀ L s.heap m) (H : HasC m [(Str.ofString "lengths", .ref Dl), (Str.ofString "met", .ref Dm), (Str.ofString "ways", .ref Dw), (Str.ofString "chosen", .ref Dc), (Str.ofString "more", .int n1 t1), (Str.ofString "numbers", .ref D)]) (N : News h₀ L s.heap ((Dl, listOf lv.toArray kl) :: (Dm, listOf ms.toArray km) :: (Dw, listOf (List.toArray ws) kw) :: (Dc, listOf (List.toArray cs) 0) :: (Dr, listOf (List.toArray ys) kr) :: (D, listOf (List.toArray (.int n0 t0 :: .int n1 t1 :: .int n2 t2 :: wr)) 0) :: (L + 1 + 1 + 1, o3) :: (L + 1 + 1, o2) :: (L + 1, o1) :: nw)) (off : OwnOff nw [Dw, L + 1 + 1 + 1])
    (hd1 : o1.data = .cell (some (.int (xs.length : Int) tz))) (hd2 : o2.data = .cell (some (.ref Dr))) (hd3 : o3.data = .cell none)
    (hI : IntsAre ys xs) (hx : xs.length ≤ 1060) (hc : IntsAre cs chs) (hcl : chs.length ≤ 3) (lt : @LT.lt Nat _ (L + 1 + 1 + 1) (D) ∧ @LT.lt Nat _ (D) (Dr) ∧ @LT.lt Nat _ (Dr) (Dc) ∧ @LT.lt Nat _ (Dc) (Dw) ∧ @LT.lt Nat _ (Dw) (Dm) ∧ @LT.lt Nat _ (Dm) (Dl)) (hmet : Met (Lg h₀ nw) xs ms ls) (hV : Vecs (Lg h₀ nw) ws xs) (hw0 : 0 < ws.length) (hw1 : ws.length ≤ 6)
    (h : ∀ h' tk m' ws' kw' nw' sp tsp, Fr h₀ L h' m' → HasC m' [(Str.ofString "spot", .int sp tsp), (Str.ofString "lengths", .ref Dl), (Str.ofString "met", .ref Dm), (Str.ofString "ways", .ref Dw), (Str.ofString "chosen", .ref Dc), (Str.ofString "more", .int n1 t1), (Str.ofString "numbers", .ref D)] → News h₀ L h' ((Dl, listOf lv.toArray kl) :: (Dm, listOf ms.toArray km) :: (Dw, listOf (List.toArray ws') kw') :: (Dc, listOf (List.toArray cs) 0) :: (Dr, listOf (List.toArray ys) kr) :: (D, listOf (List.toArray (.int n0 t0 :: .int n1 t1 :: .int n2 t2 :: wr)) 0) :: (L + 1 + 1 + 1, o3) :: (L + 1 + 1, o2) :: (L + 1, o1) :: nw') → OwnOff nw' [Dw, L + 1 + 1 + 1] → Met (Lg h₀ nw') xs ms ls → Vecs (Lg h₀ nw') ws' xs → 0 < ws'.length → ws'.length ≤ ws.length + 1 → 0 ≤ sp → sp ≤ xs.length → Q .next { s with heap := h', toks := tk }) :
    wpAny (model prg w) A (execs (seg 14 16) (lawEnv L f cd)) Q (fun _ _ => False) s := by
  obtain ⟨hA, dp, fr, gd, un⟩ := A
  obtain rfl : hA = none := R.handled
  have F1 := frHas F H
  simp only [ifs] at F1
  clear F
  have hxl := hI.length
  have hcl2 := hc.length
  obtain ⟨v0, hv0⟩ : ∃ v, v ∈ ws := ⟨ws[0]'hw0, List.getElem_mem _⟩
  obtain ⟨a0, rfl, V0⟩ := hV v0 hv0
  have hzw : ws.length ≤ 4000 := by omega
  have hs0 : 0 ≤ (n1.fdiv 71).fmod ((xs.length : Int) + 1) := Int.fmod_nonneg_of_pos _ (by omega)
  have hs1 : (n1.fdiv 71).fmod ((xs.length : Int) + 1) < (xs.length : Int) + 1 := Int.fmod_lt_of_pos _ (by omega)
  k_steps
  · refine star_seq F1 N (show (Dr, listOf ys.toArray kr) ∈ _ by k_mem) rfl rfl (.inl rfl) (ws := ys) rfl (by rw [List.size_toArray, sizeLine_eq]; omega) (fun h2 F2 N2 => ⟨X.keeps F2.keep, ?_⟩)
    show wpAny _ _ (call (.ref 334) ys) _ _ _
    refine v_spec (X.keeps F2.keep) (T.keeps F2.keep) (R.less (by omega)) hI (by omega) (fun h3 tk3 a2 S3 V3 => ?_)
    obtain ⟨nw3, Nw3, off3, le3, U3⟩ := refitV (nw := nw) (x := Str.ofString "ways") F2 rfl S3 N2 (fun q hq => by k_ownIn) off ⟨exNRefs F2 N2 S3 (nw := nw) (fun q hq => by k_ownIn) (by k_mem) hv0 V0, exNCell N2 S3 (by k_mem) hd3, trivial⟩
    have F3 := frStay F2 S3
    have N3 := nwS (newsStay N2 S3) fun N => nwS N fun N => nwS N fun N => nwS N fun N => nwS N fun N => nwS N fun N => nwS N fun N => nwS N fun N => nwS N fun _ => Nw3
    clear F2 N2
    have V4 := U3 _ _ V3
    clear F1 N
    k_steps
    refine wpAny_execs_nil (env := lawEnv L f cd) ?_
    rename Fr _ _ _ _ => F7
    rename News _ _ _ _ => N7
    exact h _ _ _ _ _ _ _ _ F7 ⟨rfl, rfl, rfl, rfl, rfl, rfl, rfl, trivial⟩ N7 off3 (hmet.mono le3) ((hV.mono le3).snoc V4) (by simp) (by simp) hs0 (by omega)
  · refine wpAny_execs_nil (env := lawEnv L f cd) ?_
    rename Fr _ _ _ _ => F7
    rename News _ _ _ _ => N7
    exact h _ _ _ _ _ _ _ _ F7 ⟨rfl, rfl, rfl, rfl, rfl, rfl, rfl, trivial⟩ N7 off hmet hV hw0 (by omega) hs0 (by omega)
end
section
variable {prog : Program} {w : World} {A : Around} {E : Value → Shared → Prop} {s : Shared} {K : Frag} {x C L f : Addr} {h₀ : Heap} {m : Str → Option Value} {ox : Obj} {od : Option Obj}
theorem subSlice {value slice : Expr} {i : Value} {Q : Value → Shared → Prop} (F : Fr h₀ L s.heap m) (X₀ : K.In h₀) (I : InstAt s.heap x ox C od) (hq : noSeq K C = true) (hs : findIn K (.ref C) "__getitem__" = some (some (.ref f))) (hf : fnIn K f = true) (hfn : isFn K (.ref f) = true)
    (h : wpAny (model prog w) A (call (.ref f) [.ref x, i]) Q E s)
    (hsl : subscripted slice true (.ref x) i = operate [i, .ref x] (getItem (.ref x) i) := by with_unfolding_all rfl) :
    wpAny (model prog w) A (subscriptTail value slice (.ref x) i) Q E s := by
  have X := X₀.keeps F.keep
  unfold fnIn at hf
  split at hf
  · rename_i e
    unfold subscriptTail getitemInPython
    refine wpAny_bind (wpAny_bind (wpAny_bind (I.type.here ((looks_findIn X hs).here ?_))))
    dsimp only
    refine wpAny_bind (wpAny_load (X _ _ e) (wpAny_pure ?_))
    dsimp only
    rw [hsl]
    refine wpAny_bind (wpAny_operate' ?_)
    unfold getItem sequenceKey
    refine wpAny_holding (wpAny_bind (wpAny_bind (I.type.here ?_)))
    refine wpAny_bind ((anyM_none X hq).here ?_)
    rw [if_pos (show (!false) = true from rfl)]
    refine wpAny_pure (wpAny_bind (special_fn X I hs (beq_iff_eq.mp hfn) (wpAny_mono h (fun v s' z => ?_) fun _ _ z => z)))
    refine wpAny_pure ?_
    show wpAny (model prog w) A (letTemporaryGo value (.ref x) v >>= fun _ => pure v) Q E s'
    exact wpAny_bind (wpAny_letTemporaryGo (wpAny_pure z))
  · cases hf
theorem subSliceP {h : Heap} {g : Array GenState} {d : Drawn} {t : Nat} {os : OsState} {o : Obj} {news : List (Addr × Obj)} {value slice : Expr} {Q : Value → Shared → Prop} (F : Fr h₀ L h m) (N : News h₀ L h news) (X₀ : K.In h₀) (I : InstAt h x ox C od) (hq : noSeq K C = true) (hs : findIn K (.ref C) "__getitem__" = some (some (.ref f))) (hf : fnIn K f = true) (hfn : isFn K (.ref f) = true) (hfr : o.isFreed = false)
    (hh : Fr h₀ L (h.push o) m → News h₀ L (h.push o) ((h.objs.size, o) :: news) → wpAny (model prog w) A (call (.ref f) [.ref x, .ref h.objs.size]) Q E ⟨h.push o, g, d, t, os⟩)
    (hsl : subscripted slice true (.ref x) (.ref h.objs.size) = operate [.ref h.objs.size, .ref x] (getItem (.ref x) (.ref h.objs.size)) := by with_unfolding_all rfl) :
    wpAny (model prog w) A (subscriptTail value slice (.ref x) (.ref h.objs.size)) Q E ⟨h.push o, g, d, t, os⟩ := by
  have F' := F.push o
  have N' := N.push F o hfr
  have I' : InstAt (h.push o) x ox C od := by
    obtain ⟨a, b, c, d⟩ := I
    refine ⟨Heap.get?_push_of_some _ a, b, c, ?_⟩
    revert d
    cases ox.dict <;> cases od <;> intro d <;> first | trivial | exact Heap.get?_push_of_some _ d | exact d
  exact subSlice (s := ⟨h.push o, g, d, t, os⟩) F' X₀ I' hq hs hf hfn (hh F' N') hsl
end
theorem fillL7 : (fun (_ : OpenLaw) (_ : Params → Frag) => True) PySem.Challenge.rw_nc0018_01 hd.heap_1 := by
  k_fill
  exact True.intro
section
variable {w : World} {A : Around} {E : Value → Shared → Prop} {s : Shared} {Q : Value → Shared → Prop} {mg mb : Str → Option Value} {p : Program} {loose : List Str}
theorem erase_mid {xs : List Int} {j : Nat} {x : Int} (h : j ≤ xs.length) : (List.take j xs ++ [x] ++ List.drop j xs).eraseIdx j = xs := by
  have hl : (List.take j xs).length = j := by rw [List.length_take]; omega
  rw [List.append_assoc, List.eraseIdx_append_of_length_le (by omega), hl, Nat.sub_self]
  exact List.take_append_drop j xs
theorem slice_mid {xs : List Int} {a b c d e : Int} : (List.drop (Int.toNat 3) ([a, b, c] ++ xs ++ [d, e])).take (((xs.length : Int) + 3).toNat - Int.toNat 3) = xs := by
  have : ((xs.length : Int) + 3).toNat - Int.toNat 3 = xs.length := by omega
  rw [this]
  show List.take xs.length (xs ++ [d, e]) = xs
  rw [List.take_left']
  rfl
theorem seg_6 {L f D Dr Dc Dw Dm Dl : Addr} {cd : Value} {h₀ : Heap} {wr ys cs ms lv ws : List Value} {xs ls chs nr : List Int} {n0 n1 n2 sp : Int} {t0 t1 t2 tz tsp : Tok} {o1 o2 o3 : Obj} {kr km kl kw : Nat} {nw : List (Addr × Obj)} {m : Str → Option Value} {Q : Flow → Shared → Prop}
    (X : (hd.heap_1 w.params).In h₀) (T : TopRead p loose mg mb h₀) (R : Room A 20)
    (F : Fr h₀ L s.heap m) (H : HasC m [(Str.ofString "spot", .int sp tsp), (Str.ofString "lengths", .ref Dl), (Str.ofString "met", .ref Dm), (Str.ofString "ways", .ref Dw), (Str.ofString "chosen", .ref Dc), (Str.ofString "more", .int n1 t1), (Str.ofString "numbers", .ref D)]) (N : News h₀ L s.heap ((Dl, listOf lv.toArray kl) :: (Dm, listOf ms.toArray km) :: (Dw, listOf (List.toArray ws) kw) :: (Dc, listOf (List.toArray cs) 0) :: (Dr, listOf (List.toArray ys) kr) :: (D, listOf (List.toArray (.int n0 t0 :: .int n1 t1 :: .int n2 t2 :: wr)) 0) :: (L + 1 + 1 + 1, o3) :: (L + 1 + 1, o2) :: (L + 1, o1) :: nw)) (off : OwnOff nw [Dw, L + 1 + 1 + 1])
    (hd1 : o1.data = .cell (some (.int (xs.length : Int) tz))) (hd2 : o2.data = .cell (some (.ref Dr))) (hd3 : o3.data = .cell none)
    (hI : IntsAre ys xs) (hx : xs.length ≤ 1060) (hc : IntsAre cs chs) (hcl : chs.length ≤ 3) (lt : @LT.lt Nat _ (L + 1 + 1 + 1) (D) ∧ @LT.lt Nat _ (D) (Dr) ∧ @LT.lt Nat _ (Dr) (Dc) ∧ @LT.lt Nat _ (Dc) (Dw) ∧ @LT.lt Nat _ (Dw) (Dm) ∧ @LT.lt Nat _ (Dm) (Dl)) (hmet : Met (Lg h₀ nw) xs ms ls) (hV : Vecs (Lg h₀ nw) ws xs) (hw0 : 0 < ws.length) (hw1 : ws.length ≤ 6) (hs0 : 0 ≤ sp) (hs1 : sp ≤ xs.length)
    (h : ∀ h' tk m' ws' kw' nw' , Fr h₀ L h' m' → HasC m' [(Str.ofString "spot", .int sp tsp), (Str.ofString "lengths", .ref Dl), (Str.ofString "met", .ref Dm), (Str.ofString "ways", .ref Dw), (Str.ofString "chosen", .ref Dc), (Str.ofString "more", .int n1 t1), (Str.ofString "numbers", .ref D)] → News h₀ L h' ((Dl, listOf lv.toArray kl) :: (Dm, listOf ms.toArray km) :: (Dw, listOf (List.toArray ws') kw') :: (Dc, listOf (List.toArray cs) 0) :: (Dr, listOf (List.toArray ys) kr) :: (D, listOf (List.toArray (.int n0 t0 :: .int n1 t1 :: .int n2 t2 :: wr)) 0) :: (L + 1 + 1 + 1, o3) :: (L + 1 + 1, o2) :: (L + 1, o1) :: nw') → OwnOff nw' [Dw, L + 1 + 1 + 1] → Met (Lg h₀ nw') xs ms ls → Vecs (Lg h₀ nw') ws' xs → 0 < ws'.length → ws'.length ≤ ws.length + 1 → Q .next { s with heap := h', toks := tk }) :
    wpAny (model prg w) A (execs (seg 16 17) (lawEnv L f cd)) Q (fun _ _ => False) s := by
  obtain ⟨hA, dp, fr, gd, un⟩ := A
  obtain rfl : hA = none := R.handled
  have F1 := frHas F H
  simp only [ifs] at F1
  clear F
  have hxl := hI.length
  have hcl2 := hc.length
  obtain ⟨v0, hv0⟩ : ∃ v, v ∈ ws := ⟨ws[0]'hw0, List.getElem_mem _⟩
  obtain ⟨a0, rfl, V0⟩ := hV v0 hv0
  have hzw : ws.length ≤ 4000 := by omega
  obtain ⟨j, rfl⟩ : ∃ j : Nat, sp = j := ⟨sp.toNat, by omega⟩
  k_steps
  · rename Fr _ _ _ _ => F2
    rename News _ _ _ _ => N2
    rename IntsAre _ (_ ++ _ ++ List.drop _ _) => hI2
    rw [Int.toNat_natCast] at hI2
    refine pvector_list (X.keeps F2.keep) (T.keeps F2.keep) (R.less (by omega)) ⟨_, N2.get (.head _)⟩ hI2 (by simp only [List.length_append, List.length_take, List.length_drop, List.length_cons, List.length_nil]; omega) (fun h3 tk3 a2 S3 V3 => ?_)
    obtain ⟨nw3, Nw3, off3, le3, U3⟩ := refitV (nw := nw) (x := Str.ofString "ways") F2 rfl S3 N2 (fun q hq => by k_ownIn) off ⟨exNRefs F2 N2 S3 (nw := nw) (fun q hq => by k_ownIn) (by k_mem) hv0 V0, exNCell N2 S3 (by k_mem) hd3, trivial⟩
    have F3 := frStay F2 S3
    have N3 := nwS (nwT (nwT (nwT (nwT (nwT (newsStay N2 S3)))))) fun N => nwS N fun N => nwS N fun N => nwS N fun N => nwS N fun N => nwS N fun N => nwS N fun N => nwS N fun N => nwS N fun _ => Nw3
    clear F2 N2
    have V4 := U3 _ _ V3
    clear V3 U3 Nw3
    have PV := V4
    obtain ⟨dx, tc, r, n, ts, t, to, ys', zs', vs', V4, hys⟩ := V4
    have ho := V4.obj
    have hdd := V4.dict
    k_steps
    rename Fr _ _ _ _ => F5
    rename News _ _ _ _ => N5
    refine delete_spec (X.keeps F5.keep) (T.keeps F5.keep) (R.less (by omega)) (PV.mono (subLg F5 N5 (fun q hq => by k_ownIn))) (by simp only [List.length_append, List.length_take, List.length_drop, List.length_cons, List.length_nil]; omega) (by simp only [List.length_append, List.length_take, List.length_drop, List.length_cons, List.length_nil]; omega) (fun h6 tk6 a3 S6 V6 => ?_)
    obtain ⟨nw6, Nw6, off6, le6, U6⟩ := refitV (nw := nw3) (x := Str.ofString "ways") F5 rfl S6 N5 (fun q hq => by k_ownIn) off3 ⟨exNRefs F5 N5 S6 (nw := nw3) (fun q hq => by k_ownIn) (by k_mem) hv0 (V0.mono le3), exNCell N5 S6 (by k_mem) hd3, trivial⟩
    have F6 := frStay F5 S6
    have N6 := nwS (newsStay N5 S6) fun N => nwS N fun N => nwS N fun N => nwS N fun N => nwS N fun N => nwS N fun N => nwS N fun N => nwS N fun N => nwS N fun _ => Nw6
    clear F5 N5
    have V7 := U6 _ _ V6
    rw [erase_mid (by omega)] at V7
    clear ho hdd
    k_steps
    refine wpAny_execs_nil (env := lawEnv L f cd) ?_
    rename Fr _ _ _ _ => F7
    rename News _ _ _ _ => N7
    have le : Le (Lg h₀ nw) (Lg h₀ nw6) := fun _ _ e => le6 _ _ (le3 _ _ e)
    exact h _ _ _ _ _ _ F7 ⟨rfl, rfl, rfl, rfl, rfl, rfl, rfl, trivial⟩ N7 off6 (hmet.mono le) ((hV.mono le).snoc V7) (by simp) (by simp)
  · rename Fr _ _ _ _ => F2
    rename News _ _ _ _ => N2
    rename IntsAre _ (_ ++ _ ++ [_, _]) => hI2
    refine pvector_list (X.keeps F2.keep) (T.keeps F2.keep) (R.less (by omega)) ⟨_, N2.get (.head _)⟩ hI2 (by simp only [List.length_append, List.length_cons, List.length_nil]; omega) (fun h3 tk3 a2 S3 V3 => ?_)
    obtain ⟨nw3, Nw3, off3, le3, U3⟩ := refitV (nw := nw) (x := Str.ofString "ways") F2 rfl S3 N2 (fun q hq => by k_ownIn) off ⟨exNRefs F2 N2 S3 (nw := nw) (fun q hq => by k_ownIn) (by k_mem) hv0 V0, exNCell N2 S3 (by k_mem) hd3, trivial⟩
    have F3 := frStay F2 S3
    have N3 := nwS (nwT (nwT (nwT (nwT (newsStay N2 S3))))) fun N => nwS N fun N => nwS N fun N => nwS N fun N => nwS N fun N => nwS N fun N => nwS N fun N => nwS N fun N => nwS N fun _ => Nw3
    clear F2 N2
    have V4 := U3 _ _ V3
    clear V3 U3 Nw3
    have PV := V4
    obtain ⟨dx, tc, r, n, ts, t, to, ys', zs', vs', V4, hys⟩ := V4
    have ho := V4.obj
    have hdd := V4.dict
    k_steps
    rename Fr _ _ _ _ => F5
    rename News _ _ _ _ => N5
    refine' subSliceP F5 N5 X (K := hd.heap_1 w.params) (C := 303) (f := 92) ?k3 ?k4 ?k5 ?k6 ?k7 rfl ?_
    (case k3 => k_inst)
    (case k4 => k_dflt k_is)
    (case k5 => k_dflt k_is)
    (case k6 => k_dflt k_is)
    (case k7 => k_dflt k_is)
    clear F5 N5
    intro F5 N5
    refine getslice_spec (X.keeps F5.keep) (T.keeps F5.keep) (R.less (by omega)) (PV.mono (subLg F5 N5 (fun q hq => by k_ownIn))) (by simp only [List.length_append, List.length_cons, List.length_nil]; omega) (N5.get (.head _)) (by omega) (by omega) (by simp only [List.length_append, List.length_cons, List.length_nil]; omega) (fun h6 tk6 a3 S6 V6 => ?_)
    obtain ⟨nw6, Nw6, off6, le6, U6⟩ := refitV (nw := nw3) (x := Str.ofString "ways") F5 rfl S6 N5 (fun q hq => by k_ownIn) off3 ⟨exNRefs F5 N5 S6 (nw := nw3) (fun q hq => by k_ownIn) (by k_mem) hv0 (V0.mono le3), exNCell N5 S6 (by k_mem) hd3, trivial⟩
    have F6 := frStay F5 S6
    have N6 := nwS (nwT (newsStay N5 S6)) fun N => nwS N fun N => nwS N fun N => nwS N fun N => nwS N fun N => nwS N fun N => nwS N fun N => nwS N fun N => nwS N fun _ => Nw6
    clear F5 N5
    have V7 := U6 _ _ V6
    rw [slice_mid] at V7
    clear ho hdd
    k_steps
    refine wpAny_execs_nil (env := lawEnv L f cd) ?_
    rename Fr _ _ _ _ => F7
    rename News _ _ _ _ => N7
    have le : Le (Lg h₀ nw) (Lg h₀ nw6) := fun _ _ e => le6 _ _ (le3 _ _ e)
    exact h _ _ _ _ _ _ F7 ⟨rfl, rfl, rfl, rfl, rfl, rfl, rfl, trivial⟩ N7 off6 (hmet.mono le) ((hV.mono le).snoc V7) (by simp) (by simp)
  · refine wpAny_execs_nil (env := lawEnv L f cd) ?_
    exact h _ _ _ _ _ _ F1 ⟨rfl, rfl, rfl, rfl, rfl, rfl, rfl, trivial⟩ N off hmet hV hw0 (by omega)
end
section
variable {prog : Program} {w : World} {A : Around} {h₀ : Heap} {L : Addr} {m : Str → Option Value} {env : Env} {ct elt : PySem.Expr} {x : Str} {scope : Scope} {cl : List (Str × Addr)} {s : Shared} {S : List (Addr × Obj) → Prop} {P : Nat → Value → Prop} {Fin : List Value → List (Addr × Obj) → Prop} {news : List (Addr × Obj)} {n : Nat}
/-- what the turn of a comprehension leaves -/
def CEnd (h₀ : Heap) (L : Addr) (m : Str → Option Value) (s₁ : Shared) (all : List (Addr × Obj)) (R : Value → Prop) (y : Value) (s' : Shared) : Prop := ∃ h' tk', s' = { s₁ with heap := h', toks := tk' } ∧ Fr h₀ L h' m ∧ News h₀ L h' all ∧ R y
theorem CEnd.intro {s₁ : Shared} {all : List (Addr × Obj)} {R : Value → Prop} {y : Value} {h' : Heap} {tk' : Nat} (F : Fr h₀ L h' m) (N : News h₀ L h' all) (r : R y) : CEnd h₀ L m s₁ all R y { s₁ with heap := h', toks := tk' } := ⟨h', tk', rfl, F, N, r⟩
theorem compU_inv (J : Nat → List Value → Prop) (hS : S news)
    (turn : ∀ i v ys I oI C oC D m₂ h tk (E' : Value → Shared → Prop), i < n → P i v → J i ys → LCg.NsObj oC m₂ → m₂ x = some v → Fr h₀ L h m → News h₀ L h ((I, oI) :: (C, oC) :: (D, LCg.lst ys) :: news) → LCg.Off3 I C D news → ((@Ne Nat I C) ∧ (@Ne Nat I D) ∧ (@Ne Nat C D)) →
      wpAny (model prog w) A (eval elt (compEnvC scope cl C env)) (CEnd h₀ L m { s with heap := h, toks := tk } ((I, oI) :: (C, oC) :: (D, LCg.lst ys) :: news) fun y => J (i + 1) (ys ++ [y])) E' { s with heap := h, toks := tk })
    (fin : ∀ ys, J n ys → Fin ys news) (h0 : J 0 []) : LCg.CompRest prog w A h₀ L m env elt x scope cl s S P Fin n 0 [] news := by
  suffices H : ∀ k i ys, i + k = n → J i ys → LCg.CompRest prog w A h₀ L m env elt x scope cl s S P Fin k i ys news from H n 0 [] (by omega) h0
  intro k
  induction k with
  | zero =>
    intro i ys hi hj
    obtain rfl : i = n := by omega
    exact LCg.CompRest.zero (fin ys hj)
  | succ k ih =>
    intro i ys hi hj
    refine LCg.CompRest.succ fun v I oI C oC D m₂ h tk E' hv hC hx F N off ne => ?_
    refine wpAny_mono (turn i v ys I oI C oC D m₂ h tk E' (by omega) hv hj hC hx F N off ne) (fun y s' hy => ?_) fun _ _ e => e
    obtain ⟨h', tk', e, F', N', j⟩ := hy
    exact ⟨h', tk', news, e, F', N', off, hS, ih (i + 1) (ys ++ [y]) (by omega) j⟩
theorem compT_inv (J : Nat → List Value → Prop) (hS : S news)
    (turn : ∀ i v ys I oI C oC D m₂ h tk (E' : Value → Shared → Prop), i < n → P i v → J i ys → LCg.NsObj oC m₂ → m₂ x = some v → Fr h₀ L h m → News h₀ L h ((I, oI) :: (C, oC) :: (D, LCg.lst ys) :: news) → LCg.Off3 I C D news → ((@Ne Nat I C) ∧ (@Ne Nat I D) ∧ (@Ne Nat C D)) →
      wpAny (model prog w) A (isTrue ct (compEnvC scope cl C env) (eval ct (compEnvC scope cl C env))) (fun ok s' => if ok = true then
        wpAny (model prog w) A (eval elt (compEnvC scope cl C env)) (CEnd h₀ L m { s with heap := h, toks := tk } ((I, oI) :: (C, oC) :: (D, LCg.lst ys) :: news) fun y => J (i + 1) (ys ++ [y])) E' s'
        else CEnd h₀ L m { s with heap := h, toks := tk } ((I, oI) :: (C, oC) :: (D, LCg.lst ys) :: news) (fun _ => J (i + 1) ys) Value.none s') E' { s with heap := h, toks := tk })
    (fin : ∀ ys, J n ys → Fin ys news) (h0 : J 0 []) : LCt.CompRestT prog w A h₀ L m env ct elt x scope cl s S P Fin n 0 [] news := by
  suffices H : ∀ k i ys, i + k = n → J i ys → LCt.CompRestT prog w A h₀ L m env ct elt x scope cl s S P Fin k i ys news from H n 0 [] (by omega) h0
  intro k
  induction k with
  | zero =>
    intro i ys hi hj
    obtain rfl : i = n := by omega
    exact LCt.CompRestT.zero (fin ys hj)
  | succ k ih =>
    intro i ys hi hj
    refine LCt.CompRestT.succ fun v I oI C oC D m₂ h tk E' hv hC hx F N off ne => ?_
    refine wpAny_mono (turn i v ys I oI C oC D m₂ h tk E' (by omega) hv hj hC hx F N off ne) (fun ok s' hok => ?_) fun _ _ e => e
    by_cases e : ok = true
    · rw [if_pos e] at hok ⊢
      refine wpAny_mono hok (fun y s'' hy => ?_) fun _ _ e => e
      obtain ⟨h', tk', e, F', N', j⟩ := hy
      exact ⟨h', tk', news, e, F', N', off, hS, ih (i + 1) (ys ++ [y]) (by omega) j⟩
    · rw [if_neg e] at hok ⊢
      obtain ⟨h', tk', e, F', N', j⟩ := hok
      exact ⟨h', tk', news, e, F', N', off, hS, ih (i + 1) ys (by omega) j⟩
end
theorem off1_mem {D : Addr} {l : List (Addr × Obj)} (h : LCg.Off1 D l) : ∀ p ∈ l, p.1 ≠ D := by
  induction l with
  | nil => intro p hp; cases hp
  | cons a r ih =>
    intro p hp
    obtain ⟨h1, h2⟩ := h
    rcases List.mem_cons.mp hp with rfl | hp
    · exact h1
    · exact ih h2 p hp
theorem off1_own {D : Addr} {nw : List (Addr × Obj)} {ex : List Addr} (h : LCg.Off1 D nw) (off : OwnOff nw ex) : OwnOff nw (D :: ex) := by
  intro p hp b hb
  rcases List.mem_cons.mp hb with rfl | hb
  · exact off1_mem h p hp
  · exact off p hp b hb
section
theorem fillL8 : (fun (_ : OpenLaw) (_ : Params → Frag) => True) PySem.Challenge.rw_nc0018_01 hd.heap_1 := by
  k_fill
  exact True.intro
section
variable {w : World} {A : Around} {E : Value → Shared → Prop} {s : Shared} {Q : Value → Shared → Prop} {mg mb : Str → Option Value} {p : Program} {loose : List Str}
local macro_rules | `(tactic| walk_at "exec Assign cons ListComp") => `(tactic| (k_here; refine held_gen ?_; intro T9 hT9))
local macro_rules | `(tactic| walk_at "eval ListComp") => `(tactic| (k_here; refine held_gen ?_; intro T9 hT9))
local macro_rules | `(tactic| walk_at "CompSrcT") => `(tactic| (refine Hold.mk ?_))
local macro_rules | `(tactic| walk_at "CompSrcT ref") => `(tactic| (refine Hold.mk ?_))
local macro_rules | `(tactic| walk_at "CompSrc") => `(tactic| (refine Hold.mk ?_))
local macro_rules | `(tactic| walk_at "CompSrc ref") => `(tactic| (refine Hold.mk ?_))
theorem seg_7 {L f D Dr Dc Dw Dm Dl : Addr} {cd : Value} {h₀ : Heap} {wr ys cs ms lv ws : List Value} {xs ls chs nr : List Int} {n0 n1 n2 sp : Int} {t0 t1 t2 tz tsp : Tok} {o1 o2 o3 : Obj} {kr km kl kw : Nat} {nw : List (Addr × Obj)} {m : Str → Option Value} {Q : Flow → Shared → Prop}
    (X : (hd.heap_1 w.params).In h₀) (T : TopRead p loose mg mb h₀) (R : Room A 20)
    (F : Fr h₀ L s.heap m) (H : HasC m [(Str.ofString "spot", .int sp tsp), (Str.ofString "lengths", .ref Dl), (Str.ofString "met", .ref Dm), (Str.ofString "ways", .ref Dw), (Str.ofString "chosen", .ref Dc), (Str.ofString "more", .int n1 t1), (Str.ofString "numbers", .ref D)]) (N : News h₀ L s.heap ((Dl, listOf lv.toArray kl) :: (Dm, listOf ms.toArray km) :: (Dw, listOf (List.toArray ws) kw) :: (Dc, listOf (List.toArray cs) 0) :: (Dr, listOf (List.toArray ys) kr) :: (D, listOf (List.toArray (.int n0 t0 :: .int n1 t1 :: .int n2 t2 :: wr)) 0) :: (L + 1 + 1 + 1, o3) :: (L + 1 + 1, o2) :: (L + 1, o1) :: nw)) (off : OwnOff nw [Dw, L + 1 + 1 + 1])
    (hd1 : o1.data = .cell (some (.int (xs.length : Int) tz))) (hd2 : o2.data = .cell (some (.ref Dr))) (hd3 : o3.data = .cell none)
    (hI : IntsAre ys xs) (hx : xs.length ≤ 1060) (hc : IntsAre cs chs) (hcl : chs.length ≤ 3) (lt : @LT.lt Nat _ (L + 1 + 1 + 1) (D) ∧ @LT.lt Nat _ (D) (Dr) ∧ @LT.lt Nat _ (Dr) (Dc) ∧ @LT.lt Nat _ (Dc) (Dw) ∧ @LT.lt Nat _ (Dw) (Dm) ∧ @LT.lt Nat _ (Dm) (Dl)) (hmet : Met (Lg h₀ nw) xs ms ls) (hV : Vecs (Lg h₀ nw) ws xs) (hw0 : 0 < ws.length) (hw1 : ws.length ≤ 6) (hs0 : 0 ≤ sp) (hs1 : sp ≤ xs.length) (hnr : IntsAre wr nr) (hnl : nr.length ≤ 65)
    (h : ∀ h' tk m' Dp pv ps kp, Fr h₀ L h' m' → HasC m' [(Str.ofString "places", .ref Dp), (Str.ofString "spot", .int sp tsp), (Str.ofString "lengths", .ref Dl), (Str.ofString "met", .ref Dm), (Str.ofString "ways", .ref Dw), (Str.ofString "chosen", .ref Dc), (Str.ofString "more", .int n1 t1), (Str.ofString "numbers", .ref D)] → News h₀ L h' ((Dp, listOf (List.toArray pv) kp) :: (Dl, listOf lv.toArray kl) :: (Dm, listOf ms.toArray km) :: (Dw, listOf (List.toArray ws) kw) :: (Dc, listOf (List.toArray cs) 0) :: (Dr, listOf (List.toArray ys) kr) :: (D, listOf (List.toArray (.int n0 t0 :: .int n1 t1 :: .int n2 t2 :: wr)) 0) :: (L + 1 + 1 + 1, o3) :: (L + 1 + 1, o2) :: (L + 1, o1) :: nw) → LCg.Off1 Dp ((Dl, listOf lv.toArray kl) :: (Dm, listOf ms.toArray km) :: (Dw, listOf (List.toArray ws) kw) :: (Dc, listOf (List.toArray cs) 0) :: (Dr, listOf (List.toArray ys) kr) :: (D, listOf (List.toArray (.int n0 t0 :: .int n1 t1 :: .int n2 t2 :: wr)) 0) :: (L + 1 + 1 + 1, o3) :: (L + 1 + 1, o2) :: (L + 1, o1) :: nw) → IntsAre pv ps → (∀ k ∈ ps, 0 ≤ k ∧ k < (xs.length : Int)) → ps.length ≤ 8 → Q .next { s with heap := h', toks := tk }) :
    wpAny (model prg w) A (execs (seg 17 18) (lawEnv L f cd)) Q (fun _ _ => False) s := by
  obtain ⟨hA, dp, fr, gd, un⟩ := A
  obtain rfl : hA = none := R.handled
  have F1 := frHas F H
  simp only [ifs] at F1
  clear F
  have hxl := hI.length
  have hcl2 := hc.length
  obtain ⟨v0, hv0⟩ : ∃ v, v ∈ ws := ⟨ws[0]'hw0, List.getElem_mem _⟩
  obtain ⟨a0, rfl, V0⟩ := hV v0 hv0
  have hzw : ws.length ≤ 4000 := by omega
  k_steps
  rename (_ = exec _ _) => hT9
  subst hT9
  with_reducible refine' LCt.Assign_ListComp_T F1 ?a1 ?a2 ?a3 ?a4 ?a5 ?a6 ?a7 ?a8 ?a9 ?_ ?a10
  (case a1 => rfl)
  (case a2 => with_unfolding_all rfl)
  (case a3 => with_unfolding_all rfl)
  (case a4 => decide)
  (case a5 => rfl)
  (case a6 => decide)
  (case a7 => rfl)
  (case a8 => rfl)
  (case a9 => rfl)
  (case a10 => intro _; rfl)
  k_steps
  unfold Hold
  rename Fr _ _ _ _ => F2
  rename News _ _ _ _ => N2
  refine LCt.CompSrcT.ledger (by rfl) F2 N2 (.head _) (by size_fits) (fun g9 => ?_)
  refine compT_inv (fun i us => ∃ l, IntsAre us l ∧ (∀ k ∈ l, 0 ≤ k ∧ k < (xs.length : Int)) ∧ l.length ≤ i) (.inr ⟨_, .head _, rfl, _, rfl⟩) ?_ ?_ ⟨[], .nil, (by intro k hk; cases hk), Nat.le_refl _⟩
  · rintro i v us I oI C oC Da m2 h3 tk3 E3 hi hv ⟨l, hl, hlb, hll⟩ hC hm F3 N3 off3 ne3
    rw [List.getElem?_toArray] at hv
    obtain ⟨z, tz, rfl, _⟩ := ints_at (.cons _ _ (.cons _ _ (.cons _ _ (.cons _ _ (.cons _ _ (.cons _ _ (.cons _ _ (.cons _ _ .nil)))))))) hv
    clear F2 N2
    simp only [LCg.Off3, and_true] at off3
    k_steps
    · exact CEnd.intro F3 N3 ⟨l ++ [z], hl.append (.cons _ _ .nil), (by
        intro k hk
        rcases List.mem_append.mp hk with hk | hk
        · exact hlb k hk
        · rw [List.mem_singleton.mp hk]; exact ⟨by assumption, by assumption⟩), by simp only [List.length_append, List.length_cons, List.length_nil]; omega⟩
    · exact CEnd.intro F3 N3 ⟨l, hl, hlb, by omega⟩
    · exact CEnd.intro F3 N3 ⟨l, hl, hlb, by omega⟩
  · rintro us ⟨l, hl, hlb, hll⟩
    intro Dp h3 tk3 F3 N3 off3
    clear F2 N2
    show wpAny _ _ (execs (List.take 0 _) (lawEnv L f cd)) _ _ _
    refine wpAny_execs_nil (env := lawEnv L f cd) ?_
    exact h _ _ _ _ _ _ _ F3 ⟨rfl, rfl, rfl, rfl, rfl, rfl, rfl, rfl, trivial⟩ (nwS N3 fun N => nwT N) off3.2 hl hlb hll
end
end
theorem seq_list_iadd : seqSlot? (.type "list") (dunderI "add") = pure (some (.builtin "list.__iadd__")) := by
  unfold seqSlot?
  rw [PySem.F.slot_list_iadd.lookup]
  rfl
section
variable {prog : Program} {w : World} {A : Around} {E : Value → Shared → Prop} {s : Shared} {h₀ : Heap} {L : Addr} {m : Str → Option Value} {news news' : List (Addr × Obj)}
theorem iadd_list {a b : Value} {Q : Value → Shared → Prop} (ha : s.TypeIs a "list") (hb : s.TypeIs b "list") (hc : wpAny (model prog w) A (call (.builtin "list.__iadd__") [a, b]) Q E s) : wpAny (model prog w) A (inplaceOp .Add a b) Q E s := by
  unfold inplaceOp
  refine wpAny_holding ?_
  have hfi : fillsInplaceSlot (.type "list") "add" (Operator.Add == .Add) = pure false := by
    unfold fillsInplaceSlot
    show (typeLookup (.type "list") (dunderI "add") >>= fun fi => pure (fi.isSome && !isSeqSlot fi)) = pure false
    rw [PySem.F.slot_list_iadd.lookup]
    rfl
  refine wpAny_bind (wpAny_typeOf ha (wpAny_bind (wpAny_of_eq hfi ?_)))
  simp only [Bool.false_eq_true, if_false]
  refine wpAny_bind (wpAny_binaryOp1_none (nm := "add") ha hb noFill_list_add ?_)
  refine wpAny_bind (wpAny_of_eq seq_list_iadd ?_)
  exact wpAny_bind (wpAny_rule hc)
theorem iadd_in {D b : Addr} {ys : List Value} {n n2 : Nat} {zs : List Value} {Q : Value → Shared → Prop}
    (F : Fr h₀ L s.heap m) (N : News h₀ L s.heap ((D, listOf ys.toArray n) :: news)) (hap : ∀ p ∈ news, p.1 ≠ D) (hb : s.heap.get? b = some (listOf zs.toArray n2)) (hz : ys.length + zs.length ≤ 4000)
    (h : ∀ h' n', Fr h₀ L h' m → News h₀ L h' ((D, listOf (ys ++ zs).toArray n') :: news) → Q (.ref D) { s with heap := h' }) : wpAny (model prog w) A (inplaceOp .Add (.ref D) (.ref b)) Q E s := by
  have hm := N _ (.head _)
  have hsz' : ys.toArray.size + zs.toArray.size ≤ sizeLine := by rw [List.size_toArray, List.size_toArray, sizeLine_eq]; omega
  refine iadd_list ⟨_, hm.1, rfl⟩ ⟨_, hb, rfl⟩ ?_
  refine call_meets PySem.F.slot_list_iadd ⟨_, hm.1, rfl⟩ PySem.F.entry_list_iadd (PySem.F.args_list_iadd_2 _ _) (AutoSeq1.list___iadd___list_list_0 D ys.toArray n b zs.toArray n2 (extend_door hsz') (Nat.le_trans (Nat.le_add_right _ _) hsz')) ⟨hm.1, hb, ?_⟩
  have e : ys.toArray ++ zs.toArray = (ys ++ zs).toArray := by simp
  have ho' : (s.heap.update D (Obj.mapSeq fun x => x ++ zs.toArray)).get? D = some { cls := .type "list", data := .seq (ys ++ zs).toArray (if (ys.toArray ++ zs.toArray).size == ys.toArray.size then n else n + 1) } := by
    rw [Heap.get?_update_self _ hm.1 (by rw [mapSeq_app]; rfl), mapSeq_app, e]
  exact h _ _ (F.change (Heap.SameBut.update ..) hm.2.1 hm.2.2) (News.setIn (own := []) N (by simp) hap (Heap.SameBut.update ..) ho')
end
section
theorem fillL9 : (fun (_ : OpenLaw) (_ : Params → Frag) => True) PySem.Challenge.rw_nc0018_01 hd.heap_1 := by
  k_fill
  exact True.intro
section
variable {w : World} {A : Around} {E : Value → Shared → Prop} {s : Shared} {Q : Value → Shared → Prop} {mg mb : Str → Option Value} {p : Program} {loose : List Str}
local macro_rules | `(tactic| walk_at "exec Assign cons ListComp") => `(tactic| (k_here; refine held_gen ?_; intro T9 hT9))
local macro_rules | `(tactic| walk_at "eval ListComp") => `(tactic| (k_here; refine held_gen ?_; intro T9 hT9))
local macro_rules | `(tactic| walk_at "CompSrcT") => `(tactic| (refine Hold.mk ?_))
local macro_rules | `(tactic| walk_at "CompSrcT ref") => `(tactic| (refine Hold.mk ?_))
local macro_rules | `(tactic| walk_at "CompSrc") => `(tactic| (refine Hold.mk ?_))
local macro_rules | `(tactic| walk_at "CompSrc ref") => `(tactic| (refine Hold.mk ?_))

theorem seg_8 {L f D Dr Dc Dw Dm Dl Dp : Addr} {cd : Value} {h₀ : Heap} {wr ys cs ms lv ws pv : List Value} {xs ls chs nr ps : List Int} {n0 n1 n2 sp : Int} {t0 t1 t2 tz tsp : Tok} {o1 o2 o3 : Obj} {kr km kl kw kp : Nat} {nw : List (Addr × Obj)} {m : Str → Option Value} {Q : Flow → Shared → Prop}
    (X : (hd.heap_1 w.params).In h₀) (T : TopRead p loose mg mb h₀) (R : Room A 20)
    (F : Fr h₀ L s.heap m) (H : HasC m [(Str.ofString "places", .ref Dp), (Str.ofString "spot", .int sp tsp), (Str.ofString "lengths", .ref Dl), (Str.ofString "met", .ref Dm), (Str.ofString "ways", .ref Dw), (Str.ofString "chosen", .ref Dc), (Str.ofString "more", .int n1 t1), (Str.ofString "numbers", .ref D)]) (N : News h₀ L s.heap ((Dp, listOf (List.toArray pv) kp) :: (Dl, listOf lv.toArray kl) :: (Dm, listOf ms.toArray km) :: (Dw, listOf (List.toArray ws) kw) :: (Dc, listOf (List.toArray cs) 0) :: (Dr, listOf (List.toArray ys) kr) :: (D, listOf (List.toArray (.int n0 t0 :: .int n1 t1 :: .int n2 t2 :: wr)) 0) :: (L + 1 + 1 + 1, o3) :: (L + 1 + 1, o2) :: (L + 1, o1) :: nw)) (off : OwnOff nw [Dw, L + 1 + 1 + 1])
    (hd1 : o1.data = .cell (some (.int (xs.length : Int) tz))) (hd2 : o2.data = .cell (some (.ref Dr))) (hd3 : o3.data = .cell none)
    (hI : IntsAre ys xs) (hx : xs.length ≤ 1060) (hc : IntsAre cs chs) (hcl : chs.length ≤ 3) (lt : @LT.lt Nat _ (L + 1 + 1 + 1) (D) ∧ @LT.lt Nat _ (D) (Dr) ∧ @LT.lt Nat _ (Dr) (Dc) ∧ @LT.lt Nat _ (Dc) (Dw) ∧ @LT.lt Nat _ (Dw) (Dm) ∧ @LT.lt Nat _ (Dm) (Dl)) (hmet : Met (Lg h₀ nw) xs ms ls) (hV : Vecs (Lg h₀ nw) ws xs) (hw0 : 0 < ws.length) (hw1 : ws.length ≤ 6) (offp : LCg.Off1 Dp ((Dl, listOf lv.toArray kl) :: (Dm, listOf ms.toArray km) :: (Dw, listOf (List.toArray ws) kw) :: (Dc, listOf (List.toArray cs) 0) :: (Dr, listOf (List.toArray ys) kr) :: (D, listOf (List.toArray (.int n0 t0 :: .int n1 t1 :: .int n2 t2 :: wr)) 0) :: (L + 1 + 1 + 1, o3) :: (L + 1 + 1, o2) :: (L + 1, o1) :: nw)) (hp : IntsAre pv ps) (hpb : ∀ k ∈ ps, 0 ≤ k ∧ k < (xs.length : Int)) (hpl : ps.length ≤ 8) (hnr : IntsAre wr nr) (hnl : nr.length ≤ 65)
    (h : ∀ h' tk m' pv' ps' kp', Fr h₀ L h' m' → HasC m' [(Str.ofString "places", .ref Dp), (Str.ofString "spot", .int sp tsp), (Str.ofString "lengths", .ref Dl), (Str.ofString "met", .ref Dm), (Str.ofString "ways", .ref Dw), (Str.ofString "chosen", .ref Dc), (Str.ofString "more", .int n1 t1), (Str.ofString "numbers", .ref D)] → News h₀ L h' ((Dp, listOf (List.toArray pv') kp') :: (Dl, listOf lv.toArray kl) :: (Dm, listOf ms.toArray km) :: (Dw, listOf (List.toArray ws) kw) :: (Dc, listOf (List.toArray cs) 0) :: (Dr, listOf (List.toArray ys) kr) :: (D, listOf (List.toArray (.int n0 t0 :: .int n1 t1 :: .int n2 t2 :: wr)) 0) :: (L + 1 + 1 + 1, o3) :: (L + 1 + 1, o2) :: (L + 1, o1) :: nw) → IntsAre pv' ps' → (∀ k ∈ ps', 0 ≤ k ∧ k < (xs.length : Int)) → ps'.length ≤ 12 → Q .next { s with heap := h', toks := tk }) :
    wpAny (model prg w) A (execs (seg 18 19) (lawEnv L f cd)) Q (fun _ _ => False) s := by
  obtain ⟨hA, dp, fr, gd, un⟩ := A
  obtain rfl : hA = none := R.handled
  have F1 := frHas F H
  simp only [ifs] at F1
  clear F
  have hxl := hI.length
  have hcl2 := hc.length
  obtain ⟨v0, hv0⟩ : ∃ v, v ∈ ws := ⟨ws[0]'hw0, List.getElem_mem _⟩
  obtain ⟨a0, rfl, V0⟩ := hV v0 hv0
  have hzw : ws.length ≤ 4000 := by omega
  have offp0 := offp
  simp only [LCg.Off1] at offp
  have offn := off1_own offp.2.2.2.2.2.2.2.2.2 off
  have hpl2 := hp.length
  have hwl2 := hnr.length
  have hI2 : IntsAre (.int n0 t0 :: .int n1 t1 :: .int n2 t2 :: wr) (n0 :: n1 :: n2 :: nr) := .cons _ _ (.cons _ _ (.cons _ _ hnr))
  k_steps
  · rename (_ = eval _ _) => hT9
    subst hT9
    with_reducible refine' LCg.ListComp_U F1 ?a3 ?a4 ?a5 ?a6 ?a7 ?_ ?a10
    (case a3 => with_unfolding_all rfl)
    (case a4 => decide)
    (case a5 => rfl)
    (case a6 => decide)
    (case a7 => rfl)
    (case a10 => intro _; rfl)
    k_steps
    unfold Hold
    rename Fr _ _ _ _ => F2
    rename News _ _ _ _ => N2
    rename IntsAre _ (List.take _ (List.drop _ (_ :: _))) => hI3
    generalize hnn : List.take _ (List.drop _ (n0 :: _)) = nn at *
    have hnl : nn.length ≤ 4 := by rw [← hnn]; simp only [List.length_take]; omega
    have hnv := hI3.length
    refine LCg.CompSrc.ledger (by rfl) F2 N2 (.head _) (by rw [List.size_toArray, sizeLine_eq]; omega) (fun g9 => ?_)
    refine compU_inv (fun i us => ∃ l, IntsAre us l ∧ (∀ k ∈ l, 0 ≤ k ∧ k < (xs.length : Int)) ∧ l.length = i) (.inr ⟨_, .head _, rfl, _, rfl⟩) ?_ ?_ ⟨[], .nil, (by intro k hk; cases hk), rfl⟩
    · rintro i v us I oI C oC Da m2 h3 tk3 E3 hi hv ⟨l, hl, hlb, hll⟩ hC hm F3 N3 off3 ne3
      rw [List.getElem?_toArray] at hv
      obtain ⟨z, tz, rfl, _⟩ := ints_at hI3 hv
      clear F2 N2
      simp only [LCg.Off3] at off3
      have hm0 : 0 ≤ (z.fdiv 102).fmod (xs.length : Int) := Int.fmod_nonneg_of_pos _ (by assumption)
      have hm1 : (z.fdiv 102).fmod (xs.length : Int) < xs.length := Int.fmod_lt_of_pos _ (by assumption)
      k_steps
      exact CEnd.intro F3 N3 ⟨l ++ [(z.fdiv 102).fmod (xs.length : Int)], hl.append (.cons _ _ .nil), (by
          intro k hk
          rcases List.mem_append.mp hk with hk | hk
          · exact hlb k hk
          · rw [List.mem_singleton.mp hk]; exact ⟨hm0, hm1⟩), by simp only [List.length_append, List.length_cons, List.length_nil]; omega⟩
    · rintro us ⟨l, hl, hlb, hll⟩
      intro Dq h3 tk3 F3 N3 off3
      clear F2 N2
      simp only [LCg.Off1] at off3
      rw [List.size_toArray] at hll
      k_steps
      have N4 := nwT (nwT N3)
      refine iadd_in (zs := us) F3 N4 (off1_mem offp0) (N3.get (.head _)) (by have := hl.length; omega) (fun h4 n4 F4 N5 => ?_)
      clear F3 N3 N4
      k_steps
      refine wpAny_execs_nil (env := lawEnv L f cd) ?_
      rename Fr _ _ _ _ => F7
      rename News _ _ _ _ => N7
      refine h _ _ _ _ _ _ F7 ⟨rfl, rfl, rfl, rfl, rfl, rfl, rfl, rfl, trivial⟩ N7 (hp.append hl) (fun k hk => ?_) (by rw [List.length_append]; omega)
      rcases List.mem_append.mp hk with hk | hk
      · exact hpb k hk
      · exact hlb k hk
  · refine wpAny_execs_nil (env := lawEnv L f cd) ?_
    exact h _ _ _ _ _ _ F1 ⟨rfl, rfl, rfl, rfl, rfl, rfl, rfl, rfl, trivial⟩ N hp hpb (by omega)
end
end
section
variable {prog : Program} {w : World} {A : Around} {E : Value → Shared → Prop} {s : Shared} {env : Env} {h₀ : Heap} {target : PySem.Expr} {body : List Stmt} {Q : Flow → Shared → Prop} {ws : List (Addr × String)} {keep : List (Addr × Obj)}
theorem allObj_mono {ws : List (Addr × String)} : ∀ {k k' : List (Addr × Obj) → Prop}, AllObj ws k → (∀ its, k its → k' its) → AllObj ws k' := by
  induction ws with
  | nil => intro k k' h m; exact m _ h
  | cons a r ih => intro k k' h m o ho; exact ih (h o ho) fun its z => m _ z
/-- a loop over many items, by what holds between the turns -/
theorem items_inv (J : List Itm → (Str → Option Value) → List (Addr × Obj) → Prop)
    (turn : ∀ a r m news v h tk, J (a :: r) m news → a.Is v h → Fr h₀ env.locals h m → AllObj ws (fun its => News h₀ env.locals h (its ++ news) →
      wpAny (model prog w) A (assign target env v) (fun _ s₂ => wpAny (model prog w) A (execs body env) (UnrPostW h₀ env.locals { s with heap := h, toks := tk } its (fun m' n' => SubL keep n' ∧ J r m' n') Q) E s₂) E { s with heap := h, toks := tk }))
    (done : ∀ m news h tk, J [] m news → Fr h₀ env.locals h m → News h₀ env.locals h news → Q .next { s with heap := h, toks := tk }) :
    ∀ (xs : List Itm) (m : Str → Option Value) (news : List (Addr × Obj)), J xs m news → ItemsRest prog w A E h₀ env target body Q s ws keep xs m news := by
  intro xs
  induction xs with
  | nil => intro m news hj h tk F N; exact done m news h tk hj F N
  | cons a r ih =>
    intro m news hj v h tk hv F
    refine allObj_mono (turn a r m news v h tk hj hv F) (fun its z N => ?_)
    refine wpAny_mono (z N) (fun _ s₂ z₂ => wpAny_mono z₂ (fun f s₃ z₃ => ?_) fun _ _ e => e) fun _ _ e => e
    have fin : UnrEndW h₀ env.locals { s with heap := h, toks := tk } its (fun m' n' => SubL keep n' ∧ J r m' n') s₃ → UnrEndW h₀ env.locals { s with heap := h, toks := tk } its (fun m' n' => SubL keep n' ∧ ItemsRest prog w A E h₀ env target body Q s ws keep r m' n') s₃ := by
      rintro ⟨h', tk', m', n', e, F', N', off, sb, j⟩
      exact ⟨h', tk', m', n', e, F', N', off, sb, ih m' n' j⟩
    cases f with
    | ret v => exact z₃
    | brk => exact z₃
    | next => exact fin z₃
    | cont => exact fin z₃
end
section
theorem fillL10 : (fun (_ : OpenLaw) (_ : Params → Frag) => True) PySem.Challenge.rw_nc0018_01 hd.heap_1 := by
  k_fill
  exact True.intro
section
variable {w : World} {A : Around} {E : Value → Shared → Prop} {s : Shared} {Q : Value → Shared → Prop} {mg mb : Str → Option Value} {p : Program} {loose : List Str}
local macro_rules | `(tactic| k_ne) => `(tactic| (refine neN ?_; (try dsimp only); first | with_reducible assumption | (refine Ne.symm ?_; with_reducible assumption)))
local macro_rules | `(tactic| walk_at "exec For Name Name cons nil") => `(tactic| (k_here; refine held_gen ?_; intro T9 hT9))
local macro_rules | `(tactic| walk_at "exec For Tuple Call cons nil") => `(tactic| (k_here; refine held_gen ?_; intro T9 hT9))
local macro_rules | `(tactic| walk_at "call type:enumerate") => `(tactic| (k_here; refine held_gen ?_; intro T9 hT9))
local macro_rules | `(tactic| walk_at "pyIter ref") => `(tactic| (k_here; refine held_gen ?_; intro T9 hT9))
local macro_rules | `(tactic| walk_at "subscriptTail Name Slice ref ref") => `(tactic| (k_here; refine held_gen ?_; intro T9 hT9))
theorem enum_uncons {pv : List Value} {i : Nat} {a : Itm} {r : List Itm} (h : a :: r = enumItems i (pv.drop i)) : ∃ v, pv[i]? = some v ∧ a = .pair (fun t => .int (i : Int) t) v ∧ r = enumItems (i + 1) (pv.drop (i + 1)) := by
  cases e : pv.drop i with
  | nil => rw [e] at h; cases h
  | cons v q =>
    rw [e] at h
    have h1 : pv[i]? = some v := by
      have := congrArg (fun l : List Value => l[0]?) e
      simpa using this
    have h2 : pv.drop (i + 1) = q := by
      have := congrArg List.tail e
      simpa using this
    rw [h2]
    unfold enumItems at h
    injection h with a1 a2
    exact ⟨v, h1, a1, a2⟩
theorem set_back {xs os ps : List Int} {z : Int} {i : Nat} (hzb : 0 ≤ z ∧ z.toNat < xs.length ∧ xs.length = os.length) (hz : ps[i]? = some z) (h : ∀ j : Nat, os[j]? = xs[j]? ∨ (j : Int) ∈ ps.drop i) : ∀ j : Nat, (os.set z.toNat (xs.getD z.toNat 0))[j]? = xs[j]? ∨ (j : Int) ∈ ps.drop (i + 1) := by
  intro j
  by_cases e : z.toNat = j
  · subst e
    left
    rw [List.getElem?_set_self (by omega), List.getD_eq_getElem?_getD]
    rw [List.getElem?_eq_getElem hzb.2.1]
    rfl
  · rw [List.getElem?_set_ne e]
    rcases h j with h | h
    · exact .inl h
    · right
      have hi : i < ps.length := (List.getElem?_eq_some_iff.mp hz).1
      rw [List.drop_eq_getElem_cons hi] at h
      rcases List.mem_cons.mp h with h | h
      · have := (List.getElem?_eq_some_iff.mp hz).2
        omega
      · exact h
theorem enum_done {pv : List Value} {xs os ps : List Int} {i : Nat} (hp : IntsAre pv ps) (hr : [] = enumItems i (pv.drop i)) (h : ∀ j : Nat, os[j]? = xs[j]? ∨ (j : Int) ∈ ps.drop i) : os = xs := by
  have h0 : pv.length ≤ i := by
    cases e : pv.drop i with
    | nil => exact List.drop_eq_nil_iff.mp e
    | cons a q => rw [e] at hr; cases hr
  have h1 : ps.drop i = [] := List.drop_eq_nil_iff.mpr (by rw [← hp.length]; exact h0)
  apply List.ext_getElem?
  intro j
  rcases h j with h | h
  · exact h
  · rw [h1] at h; cases h
theorem enum_start {I : Addr} {ex : List Addr} {c nw : List (Addr × Obj)} (h : ∀ p ∈ c ++ nw, p.1 < I) (off : OwnOff nw ex) : OwnOff nw ((I + 1) :: I :: ex) := by
  intro p hp b hb
  have := h p (List.mem_append_right _ hp)
  rcases List.mem_cons.mp hb with rfl | hb
  · exact Nat.ne_of_lt (Nat.lt_succ_of_lt this)
  rcases List.mem_cons.mp hb with rfl | hb
  · exact Nat.ne_of_lt this
  · exact off p hp b hb
theorem enum_off {I : Addr} {ex : List Addr} {c nw nw' : List (Addr × Obj)} (h : ∀ p ∈ c ++ nw, p.1 < I) (off : OwnOff nw' ((I + 1) :: I :: ex)) : ∀ q ∈ c ++ nw', q.1 ≠ I + 1 ∧ q.1 ≠ I := by
  intro q hq
  rcases List.mem_append.mp hq with e | e
  · have := h q (List.mem_append_left _ e)
    exact ⟨Nat.ne_of_lt (Nat.lt_succ_of_lt this), Nat.ne_of_lt this⟩
  · exact ⟨off q e _ (.head _), off q e _ (.tail _ (.head _))⟩
theorem seg_9 {L f D Dr Dc Dw Dm Dl Dp : Addr} {cd : Value} {h₀ : Heap} {wr ys cs ms lv ws pv : List Value} {xs ls chs nr ps : List Int} {n0 n1 n2 sp : Int} {t0 t1 t2 tz tsp : Tok} {o1 o2 o3 : Obj} {kr km kl kw kp : Nat} {nw : List (Addr × Obj)} {m : Str → Option Value} {Q : Flow → Shared → Prop}
    (X : (hd.heap_1 w.params).In h₀) (T : TopRead p loose mg mb h₀) (R : Room A 20)
    (F : Fr h₀ L s.heap m) (H : HasC m [(Str.ofString "places", .ref Dp), (Str.ofString "spot", .int sp tsp), (Str.ofString "lengths", .ref Dl), (Str.ofString "met", .ref Dm), (Str.ofString "ways", .ref Dw), (Str.ofString "chosen", .ref Dc), (Str.ofString "more", .int n1 t1), (Str.ofString "numbers", .ref D)]) (N : News h₀ L s.heap ((Dp, listOf (List.toArray pv) kp) :: (Dl, listOf lv.toArray kl) :: (Dm, listOf ms.toArray km) :: (Dw, listOf (List.toArray ws) kw) :: (Dc, listOf (List.toArray cs) 0) :: (Dr, listOf (List.toArray ys) kr) :: (D, listOf (List.toArray (.int n0 t0 :: .int n1 t1 :: .int n2 t2 :: wr)) 0) :: (L + 1 + 1 + 1, o3) :: (L + 1 + 1, o2) :: (L + 1, o1) :: nw)) (off : OwnOff nw [Dw, L + 1 + 1 + 1])
    (hd1 : o1.data = .cell (some (.int (xs.length : Int) tz))) (hd2 : o2.data = .cell (some (.ref Dr))) (hd3 : o3.data = .cell none)
    (hI : IntsAre ys xs) (hx : xs.length ≤ 1060) (hc : IntsAre cs chs) (hcl : chs.length ≤ 3) (lt : @LT.lt Nat _ (L + 1 + 1 + 1) (D) ∧ @LT.lt Nat _ (D) (Dr) ∧ @LT.lt Nat _ (Dr) (Dc) ∧ @LT.lt Nat _ (Dc) (Dw) ∧ @LT.lt Nat _ (Dw) (Dm) ∧ @LT.lt Nat _ (Dm) (Dl)) (hmet : Met (Lg h₀ nw) xs ms ls) (hV : Vecs (Lg h₀ nw) ws xs) (hw0 : 0 < ws.length) (hw1 : ws.length ≤ 6) (hp : IntsAre pv ps) (hpb : ∀ k ∈ ps, 0 ≤ k ∧ k < (xs.length : Int)) (hpl : ps.length ≤ 12) (hpw : @Ne Nat Dw Dp)
    (h : ∀ h' tk m' ws' kw' nw' , Fr h₀ L h' m' → HasC m' [(Str.ofString "places", .ref Dp), (Str.ofString "spot", .int sp tsp), (Str.ofString "lengths", .ref Dl), (Str.ofString "met", .ref Dm), (Str.ofString "ways", .ref Dw), (Str.ofString "chosen", .ref Dc), (Str.ofString "more", .int n1 t1), (Str.ofString "numbers", .ref D)] → News h₀ L h' ((Dp, listOf (List.toArray pv) kp) :: (Dl, listOf lv.toArray kl) :: (Dm, listOf ms.toArray km) :: (Dw, listOf (List.toArray ws') kw') :: (Dc, listOf (List.toArray cs) 0) :: (Dr, listOf (List.toArray ys) kr) :: (D, listOf (List.toArray (.int n0 t0 :: .int n1 t1 :: .int n2 t2 :: wr)) 0) :: (L + 1 + 1 + 1, o3) :: (L + 1 + 1, o2) :: (L + 1, o1) :: nw') → OwnOff nw' [Dw, L + 1 + 1 + 1] → Met (Lg h₀ nw') xs ms ls → Vecs (Lg h₀ nw') ws' xs → 0 < ws'.length → ws'.length ≤ ws.length + 1 → Q .next { s with heap := h', toks := tk }) :
    wpAny (model prg w) A (execs (seg 19 20) (lawEnv L f cd)) Q (fun _ _ => False) s := by
  obtain ⟨hA, dp, fr, gd, un⟩ := A
  obtain rfl : hA = none := R.handled
  have F1 := frHas F H
  simp only [ifs] at F1
  clear F
  have hxl := hI.length
  have hcl2 := hc.length
  obtain ⟨v0, hv0⟩ : ∃ v, v ∈ ws := ⟨ws[0]'hw0, List.getElem_mem _⟩
  obtain ⟨a0, rfl, V0⟩ := hV v0 hv0
  have hzw : ws.length ≤ 4000 := by omega
  have hpl2 := hp.length
  k_steps
  · rename (_ = subscriptTail _ _ _ _) => hT9
    subst hT9
    k_here
    k_dflt (refine' kmk_slice_ints (lo := none) (hi := none) (vs := ys) (ns := xs) (ms := xs) (c := xs.length) F1 N ?xl ?xp ?xq hI ?xm rfl ?_ ?xs ?xt ?xz)
    (case xl => kmk_list)
    (case xp => kmk_part)
    (case xq => kmk_part)
    (case xm => exact kmk_all hI)
    (case xs => with_unfolding_all rfl)
    (case xt => kmk_pure)
    (case xz => exact sz_of hI (by omega))
    intro Do ov h2 F2 N2 l2 hI2 _ _
    replace l2 := allLt_of l2
    simp only [AllLt] at l2
    clear F1 N
    k_steps
    rename (_ = exec _ _) => hT9
    subst hT9
    rename Fr _ _ _ _ => F3
    rename News _ _ _ _ => N3
    refine For_invVF F3 rfl rfl ?_
    k_steps
    rename (_ = pyIter _) => hT9
    subst hT9
    refine iter_ledO (l := Dp) (vs := pv) (k := kp) (fun i m nx => ∃ ov os, HasC m [(Str.ofString "other", .ref Do), (Str.ofString "places", .ref Dp), (Str.ofString "spot", .int sp tsp), (Str.ofString "lengths", .ref Dl), (Str.ofString "met", .ref Dm), (Str.ofString "ways", .ref Dw), (Str.ofString "chosen", .ref Dc), (Str.ofString "more", .int n1 t1), (Str.ofString "numbers", .ref D)] ∧ nx = (Do, listOf ov.toArray 0) :: (Dp, listOf (List.toArray pv) kp) :: (Dl, listOf lv.toArray kl) :: (Dm, listOf ms.toArray km) :: (Dw, listOf (List.toArray ws) kw) :: (Dc, listOf (List.toArray cs) 0) :: (Dr, listOf (List.toArray ys) kr) :: (D, listOf (List.toArray (.int n0 t0 :: .int n1 t1 :: .int n2 t2 :: wr)) 0) :: (L + 1 + 1 + 1, o3) :: (L + 1 + 1, o2) :: (L + 1, o1) :: nw ∧ IntsAre ov os ∧ os.length = xs.length ∧ ∀ j : Nat, os[j]? = xs[j]? ∨ (j : Int) ∈ ps) rfl (fun i m nx hj => ?_) F3 N3 ⟨ov, xs, ⟨rfl, rfl, rfl, rfl, rfl, rfl, rfl, rfl, rfl, trivial⟩, rfl, hI2, rfl, fun _ => .inl rfl⟩ ?_ ?_
    · obtain ⟨ov, os, _, rfl, _⟩ := hj
      exact .inr (.tail _ (.head _))
    · rintro i v m1 nx h4 tk4 I o hv ⟨ov, os, H4, rfl, hos, hol, hoj⟩ ne hfs F4 N4
      obtain ⟨z, tz, rfl, hz⟩ := ints_at hp hv
      have hzb := hpb z (List.mem_of_getElem? hz)
      have hovl := hos.length
      clear F3 N3
      replace F4 := frHas1 F4 H4
      simp only [ifs] at F4
      have neI := allNe_mem ne
      simp only [AllNe] at ne
      have neO : @Ne Nat Do I := ne.1
      k_steps
      rename Fr _ _ _ _ => F5
      rename News _ _ _ _ => N5
      refine TurnEnd.intro F5 N5 (allNe_mem (show AllNe I _ from ne)) ⟨_, os.set z.toNat (-7), ⟨rfl, rfl, rfl, rfl, rfl, rfl, rfl, rfl, rfl, trivial⟩, rfl, ints_set hos _, by rw [List.length_set]; exact hol, fun j => ?_⟩
      by_cases e : z.toNat = j
      · right
        have : (j : Int) = z := by omega
        rw [this]
        exact List.mem_of_getElem? hz
      · rw [List.getElem?_set_ne e]
        exact hoj j
    · rintro m1 nx h4 tk4 ⟨ov, os, H4, rfl, hos, hol, hoj⟩ F4 N4
      clear F3 N3
      replace F4 := frHas F4 H4
      simp only [ifs] at F4
      k_steps
      rename Fr _ _ _ _ => F5
      rename News _ _ _ _ => N5
      refine pvector_list (X.keeps F5.keep) (T.keeps F5.keep) (R.less (by omega)) ⟨_, N5.get (.head _)⟩ hos (by omega) (fun h6 tk6 a2 S6 V6 => ?_)
      obtain ⟨nw6, Nw6, off6, le6, U6⟩ := refitV (nw := nw) (x := Str.ofString "ways") F5 rfl S6 N5 (fun q hq => by k_ownIn) off ⟨exNRefs F5 N5 S6 (nw := nw) (fun q hq => by k_ownIn) (by k_mem) hv0 V0, exNCell N5 S6 (by k_mem) hd3, trivial⟩
      have F6 := frStay F5 S6
      have N6 := nwS (nwT (newsStay N5 S6)) fun N => nwS N fun N => nwS N fun N => nwS N fun N => nwS N fun N => nwS N fun N => nwS N fun N => nwS N fun N => nwS N fun N => nwS N fun _ => Nw6
      clear F5 N5
      have V7 := U6 _ _ V6
      k_steps
      rename (_ = exec _ _) => hT9
      subst hT9
      rename Fr _ _ _ _ => F8
      rename News _ _ _ _ => N8
      refine For_turns F8 ?_
      k_steps
      rename (_ = call _ _) => hT9
      subst hT9
      refine ktu_enum rfl F8 N8 (show (Dp, listOf pv.toArray kp) ∈ _ by k_mem) rfl rfl rfl (fun I hII => ?_)
      refine items_inv (fun r m nx => ∃ i g os nw', r = enumItems i (pv.drop i) ∧ HasC m [(Str.ofString "changed", .ref g), (Str.ofString "places", .ref Dp), (Str.ofString "spot", .int sp tsp), (Str.ofString "lengths", .ref Dl), (Str.ofString "met", .ref Dm), (Str.ofString "ways", .ref Dw), (Str.ofString "chosen", .ref Dc), (Str.ofString "more", .int n1 t1), (Str.ofString "numbers", .ref D)] ∧ nx = (Dp, listOf (List.toArray pv) kp) :: (Dl, listOf lv.toArray kl) :: (Dm, listOf ms.toArray km) :: (Dw, listOf (List.toArray ws) kw) :: (Dc, listOf (List.toArray cs) 0) :: (Dr, listOf (List.toArray ys) kr) :: (D, listOf (List.toArray (.int n0 t0 :: .int n1 t1 :: .int n2 t2 :: wr)) 0) :: (L + 1 + 1 + 1, o3) :: (L + 1 + 1, o2) :: (L + 1, o1) :: nw' ∧ OwnOff nw' [I + 1, I, Dw, L + 1 + 1 + 1] ∧ Le (Lg h₀ nw6) (Lg h₀ nw') ∧ PVec (Lg h₀ nw') g os ∧ os.length = xs.length ∧ ∀ j : Nat, os[j]? = xs[j]? ∨ (j : Int) ∈ ps.drop i) ?_ ?_ _ _ _ ?_
      · rintro a r m1 nx v h9 tk9 ⟨i, g, os, nw9, hr, H9, rfl, off9, le9, V9, hol9, hoj9⟩ hv F9
        obtain ⟨u, hu, rfl, rfl⟩ := enum_uncons hr
        obtain ⟨T9, t9, rfl, hT9⟩ := hv
        obtain ⟨z, tz9, rfl, hz⟩ := ints_at hp hu
        have hzb := hpb z (List.mem_of_getElem? hz)
        intro oe hoe oi hoi N9
        clear F8 N8
        replace F9 := frHas F9 H9
        simp only [ifs] at F9
        have PV := V9
        obtain ⟨dx, tc, r, n, ts, t, to, ys', zs', vs', V9, hys⟩ := V9
        have ho := V9.obj
        have hdd := V9.dict
        simp only [List.cons_append, List.nil_append] at N9
        k_steps
        all_goals rename Fr _ _ _ _ => F10
        all_goals rename News _ _ _ _ => N10
        all_goals refine set_spec (j := z.toNat) (X.keeps F10.keep) (T.keeps F10.keep) (R.less (by omega)) (PV.mono (subLg F10 N10 (fun q hq => by k_ownIn))) (by omega) (by omega) (by omega) (fun h11 tk11 a11 S11 V11 => ?_)
        all_goals obtain ⟨nw11, Nw11, off11, le11, U11⟩ := refitV (nw := nw9) (x := Str.ofString "ways") F10 rfl S11 N10 (fun q hq => by k_ownIn) off9 ⟨exNCls (n := "enumerate") N10 S11 (show (I + 1, oe) ∈ _ by k_mem) hoe (by decide) (by decide), exNCls (n := "list_iterator") N10 S11 (show (I, oi) ∈ _ by k_mem) hoi (by decide) (by decide), exNRefs F10 N10 S11 (nw := nw9) (fun q hq => by k_ownIn) (by k_mem) hv0 (V0.mono fun _ _ e => le9 _ _ (le6 _ _ e)), exNCell N10 S11 (by k_mem) hd3, trivial⟩
        all_goals have F11 := frStay F10 S11
        all_goals have N11 := nwS (newsStay N10 S11) fun N => nwS N fun N => nwS N fun N => nwS N fun N => nwS N fun N => nwS N fun N => nwS N fun N => nwS N fun N => nwS N fun N => nwS N fun N => nwS N fun N => nwS N fun _ => Nw11
        all_goals clear F10 N10 ho hdd
        all_goals have V12 := U11 _ _ V11
        all_goals k_steps
        all_goals rename Fr _ _ _ _ => F13
        all_goals rename News _ _ _ _ => N13
        all_goals refine ⟨_, _, _, _ :: _ :: _ :: _ :: _ :: _ :: _ :: _ :: _ :: _ :: nw11, rfl, F13, N13, ?_, ⟨.head _, trivial⟩, i + 1, a11, _, nw11, rfl, ⟨rfl, rfl, rfl, rfl, rfl, rfl, rfl, rfl, rfl, trivial⟩, rfl, off11, fun _ _ e => le11 _ _ (le9 _ _ e), V12, by rw [List.length_set]; exact hol9, set_back (by omega) hz hoj9⟩
        all_goals intro q hq q2 hq2
        all_goals have hlt := enum_off (c := (Dp, listOf (List.toArray pv) kp) :: (Dl, listOf lv.toArray kl) :: (Dm, listOf ms.toArray km) :: (Dw, listOf (List.toArray ws) kw) :: (Dc, listOf (List.toArray cs) 0) :: (Dr, listOf (List.toArray ys) kr) :: (D, listOf (List.toArray (.int n0 t0 :: .int n1 t1 :: .int n2 t2 :: wr)) 0) :: (L + 1 + 1 + 1, o3) :: (L + 1 + 1, o2) :: (L + 1, o1) :: []) (nw := nw6) (nw' := nw11) hII off11 q hq
        all_goals rcases List.mem_cons.mp hq2 with rfl | hq2
        · exact hlt.1
        · rw [List.mem_singleton.mp hq2]; exact hlt.2
        · exact hlt.1
        · rw [List.mem_singleton.mp hq2]; exact hlt.2
      · rintro m9 nx h9 tk9 ⟨i, g, os, nw9, hr, H9, rfl, off9, le9, V9, hol9, hoj9⟩ F9 N9
        have hxs := enum_done hp hr hoj9
        subst hxs
        clear F8 N8
        replace F9 := frHas F9 H9
        simp only [ifs] at F9
        have offw : OwnOff nw9 [Dw, L + 1 + 1 + 1] := fun q hq b hb => off9 q hq b (.tail _ (.tail _ hb))
        k_steps
        refine wpAny_execs_nil (env := lawEnv L f cd) ?_
        rename Fr _ _ _ _ => F13
        rename News _ _ _ _ => N13
        have le : Le (Lg h₀ nw) (Lg h₀ nw9) := fun _ _ e => le9 _ _ (le6 _ _ e)
        exact h _ _ _ _ _ _ F13 ⟨rfl, rfl, rfl, rfl, rfl, rfl, rfl, rfl, trivial⟩ N13 offw (hmet.mono le) ((hV.mono le).snoc V9) (by simp) (by simp)
      · exact ⟨0, a2, _, nw6, rfl, ⟨rfl, rfl, rfl, rfl, rfl, rfl, rfl, rfl, rfl, trivial⟩, rfl, enum_start (c := (Dp, listOf (List.toArray pv) kp) :: (Dl, listOf lv.toArray kl) :: (Dm, listOf ms.toArray km) :: (Dw, listOf (List.toArray ws) kw) :: (Dc, listOf (List.toArray cs) 0) :: (Dr, listOf (List.toArray ys) kr) :: (D, listOf (List.toArray (.int n0 t0 :: .int n1 t1 :: .int n2 t2 :: wr)) 0) :: (L + 1 + 1 + 1, o3) :: (L + 1 + 1, o2) :: (L + 1, o1) :: []) hII off6, fun _ _ e => e, V7, hol, hoj⟩
  · refine wpAny_execs_nil (env := lawEnv L f cd) ?_
    exact h _ _ _ _ _ _ F1 ⟨rfl, rfl, rfl, rfl, rfl, rfl, rfl, rfl, trivial⟩ N off hmet hV hw0 (by omega)
end
end
section
theorem fillL11 : (fun (_ : OpenLaw) (_ : Params → Frag) => True) PySem.Challenge.rw_nc0018_01 hd.heap_1 := by
  k_fill
  exact True.intro
section
variable {w : World} {A : Around} {E : Value → Shared → Prop} {s : Shared} {Q : Value → Shared → Prop} {mg mb : Str → Option Value} {p : Program} {loose : List Str}
theorem item_last {value slice : PySem.Expr} {l : Addr} {ws : List Value} {u : Tok} {v : Value} (hL : s.heap.IsList l ws.toArray) (hx : ws[ws.length - 1]? = some v) (h : Q v s)
    (hs : subscripted slice false (.ref l) (.int (-1) u) = operate [.ref l, .int (-1) u] (getItem (.ref l) (.int (-1) u)) := by with_unfolding_all rfl) :
    wpAny (model prg w) A (subscriptTail value slice (.ref l) (.int (-1) u)) Q E s := by
  have h0 := (List.getElem?_eq_some_iff.mp hx).1
  refine tail_any hL.typeIs slot_list_getitem.lookup (wpAny_getItem_list_neg hL (by omega) (by rw [List.size_toArray]; omega) (by omega) ?_ h) hs
  rw [List.size_toArray, List.getElem?_toArray, ← hx]
  congr 1
  omega
local macro_rules | `(tactic| walk_at "subscriptTail Name Constant ref int") => `(tactic| (k_here; k_dflt (refine' item_heap ?xl ?xa ?xb ?xh ?_; (case xl => kmk_list); (case xa => omega); (case xb => omega); (case xh => assumption))))
local macro_rules | `(tactic| walk_at "subscriptTail Name UnaryOp ref int") => `(tactic| (k_here; k_dflt (refine' item_last ?xl ?xh ?_; (case xl => kmk_list); (case xh => assumption))))
theorem seg_10 {L f D Dr Dc Dw Dm Dl Dp : Addr} {cd : Value} {h₀ : Heap} {wr ys cs ms lv ws pv : List Value} {xs ls chs nr ps : List Int} {n0 n1 n2 sp : Int} {t0 t1 t2 tz tsp : Tok} {o1 o2 o3 : Obj} {kr km kl kw kp : Nat} {nw : List (Addr × Obj)} {m : Str → Option Value} {Q : Flow → Shared → Prop}
    (X : (hd.heap_1 w.params).In h₀) (T : TopRead p loose mg mb h₀) (R : Room A 20)
    (F : Fr h₀ L s.heap m) (H : HasC m [(Str.ofString "places", .ref Dp), (Str.ofString "spot", .int sp tsp), (Str.ofString "lengths", .ref Dl), (Str.ofString "met", .ref Dm), (Str.ofString "ways", .ref Dw), (Str.ofString "chosen", .ref Dc), (Str.ofString "more", .int n1 t1), (Str.ofString "numbers", .ref D)]) (N : News h₀ L s.heap ((Dp, listOf (List.toArray pv) kp) :: (Dl, listOf lv.toArray kl) :: (Dm, listOf ms.toArray km) :: (Dw, listOf (List.toArray ws) kw) :: (Dc, listOf (List.toArray cs) 0) :: (Dr, listOf (List.toArray ys) kr) :: (D, listOf (List.toArray (.int n0 t0 :: .int n1 t1 :: .int n2 t2 :: wr)) 0) :: (L + 1 + 1 + 1, o3) :: (L + 1 + 1, o2) :: (L + 1, o1) :: nw)) (off : OwnOff nw [Dw, L + 1 + 1 + 1])
    (hd1 : o1.data = .cell (some (.int (xs.length : Int) tz))) (hd2 : o2.data = .cell (some (.ref Dr))) (hd3 : o3.data = .cell none)
    (hI : IntsAre ys xs) (hx : xs.length ≤ 1060) (hc : IntsAre cs chs) (hcl : chs.length ≤ 3) (lt : @LT.lt Nat _ (L + 1 + 1 + 1) (D) ∧ @LT.lt Nat _ (D) (Dr) ∧ @LT.lt Nat _ (Dr) (Dc) ∧ @LT.lt Nat _ (Dc) (Dw) ∧ @LT.lt Nat _ (Dw) (Dm) ∧ @LT.lt Nat _ (Dm) (Dl)) (hmet : Met (Lg h₀ nw) xs ms ls) (hV : Vecs (Lg h₀ nw) ws xs) (hw0 : 0 < ws.length) (hw1 : ws.length ≤ 6) (hp : IntsAre pv ps) (hpb : ∀ k ∈ ps, 0 ≤ k ∧ k < (xs.length : Int)) (hpl : ps.length ≤ 12) (hpw : @Ne Nat Dw Dp) (hls : IntsAre lv ls) (hl0 : 0 < ls.length)
    (h : ∀ h' tk m' Dl' Dm' ms' lv' ls' kl' km', Fr h₀ L h' m' → HasC m' [(Str.ofString "lengths", .ref Dl'), (Str.ofString "met", .ref Dm'), (Str.ofString "places", .ref Dp), (Str.ofString "spot", .int sp tsp), (Str.ofString "ways", .ref Dw)] → News h₀ L h' ((Dl', listOf (List.toArray lv') kl') :: (Dm', listOf (List.toArray ms') km') :: (Dp, listOf (List.toArray pv) kp) :: (Dl, listOf lv.toArray kl) :: (Dm, listOf ms.toArray km) :: (Dw, listOf (List.toArray ws) kw) :: (Dc, listOf (List.toArray cs) 0) :: (Dr, listOf (List.toArray ys) kr) :: (D, listOf (List.toArray (.int n0 t0 :: .int n1 t1 :: .int n2 t2 :: wr)) 0) :: (L + 1 + 1 + 1, o3) :: (L + 1 + 1, o2) :: (L + 1, o1) :: nw) → Met (Lg h₀ nw) xs ms' ls' → IntsAre lv' ls' → ls'.length ≤ 4000 → Q .next { s with heap := h', toks := tk }) (hlz : ls.length ≤ 4000) :
    wpAny (model prg w) A (execs (seg 20 21) (lawEnv L f cd)) Q (fun _ _ => False) s := by
  obtain ⟨hA, dp, fr, gd, un⟩ := A
  obtain rfl : hA = none := R.handled
  have F1 := frHas F H
  simp only [ifs] at F1
  clear F
  have hxl := hI.length
  have hcl2 := hc.length
  obtain ⟨v0, hv0⟩ : ∃ v, v ∈ ws := ⟨ws[0]'hw0, List.getElem_mem _⟩
  obtain ⟨a0, rfl, V0⟩ := hV v0 hv0
  have hzw : ws.length ≤ 4000 := by omega
  have hpl2 := hp.length
  have hmm := hmet.length
  have hll := hls.length
  obtain ⟨vf, hvf⟩ : ∃ v, ms[(0 : Int).toNat]? = some v := ⟨_, List.getElem?_eq_getElem (by show 0 < ms.length; omega)⟩
  obtain ⟨vl, hvl⟩ : ∃ v, ms[ms.length - 1]? = some v := ⟨_, List.getElem?_eq_getElem (by omega)⟩
  obtain ⟨nf, hnf⟩ : ∃ v, lv[(0 : Int).toNat]? = some v := ⟨_, List.getElem?_eq_getElem (by show 0 < lv.length; omega)⟩
  obtain ⟨nl, hnl⟩ : ∃ v, lv[lv.length - 1]? = some v := ⟨_, List.getElem?_eq_getElem (by omega)⟩
  obtain ⟨zf, tf, rfl, hzf⟩ := ints_at hls hnf
  obtain ⟨zl, tl, rfl, hzl⟩ := ints_at hls hnl
  obtain ⟨af, rfl, f0, f1, Vf⟩ := hmet.get hvf hzf
  obtain ⟨al, rfl, l0, l1, Vl⟩ := hmet.get hvl (by rw [hmm, ← hll]; exact hzl)
  k_steps
  · refine wpAny_execs_nil (env := lawEnv L f cd) ?_
    rename Fr _ _ _ _ => F13
    rename News _ _ _ _ => N13
    exact h _ _ _ _ _ [.ref af, .ref al] [.int zf tf, .int zl tl] [zf, zl] _ _ F13 ⟨rfl, rfl, rfl, rfl, rfl, trivial⟩ N13 (.cons f0 f1 Vf (.cons l0 l1 Vl .nil)) (.cons _ _ (.cons _ _ .nil)) (by simp)
  · refine wpAny_execs_nil (env := lawEnv L f cd) ?_
    refine h _ _ _ Dl Dm ms lv ls kl km F1 ⟨rfl, rfl, rfl, rfl, rfl, trivial⟩ ?_ hmet hls hlz
    intro q hq
    rcases List.mem_cons.mp hq with rfl | hq
    · exact N _ (by k_mem)
    rcases List.mem_cons.mp hq with rfl | hq
    · exact N _ (by k_mem)
    · exact N q hq
end
end
theorem fillL12 : (fun (_ : OpenLaw) (_ : Params → Frag) => True) PySem.Challenge.rw_nc0018_01 hd.heap_1 := by
  k_fill
  exact True.intro
section
variable {w : World} {A : Around} {E : Value → Shared → Prop} {s : Shared} {Q : Value → Shared → Prop} {mg mb : Str → Option Value} {p : Program} {loose : List Str}
theorem seg_11 {L f Dr Dw Dm Dl Dp : Addr} {cd : Value} {h₀ : Heap} {ys ms lv ws pv : List Value} {xs ls ps : List Int} {sp : Int} {tz tsp : Tok} {o1 o2 o3 : Obj} {kr km kl kw kp : Nat} {nw : List (Addr × Obj)} {m : Str → Option Value} {Q : Flow → Shared → Prop}
    (X : (hd.heap_1 w.params).In h₀) (T : TopRead p loose mg mb h₀) (R : Room A 20)
    (F : Fr h₀ L s.heap m) (H : HasC m [(Str.ofString "lengths", .ref Dl), (Str.ofString "met", .ref Dm), (Str.ofString "places", .ref Dp), (Str.ofString "spot", .int sp tsp), (Str.ofString "ways", .ref Dw)]) (N : News h₀ L s.heap ((Dl, listOf (List.toArray lv) kl) :: (Dm, listOf (List.toArray ms) km) :: (Dp, listOf (List.toArray pv) kp) :: (Dw, listOf (List.toArray ws) kw) :: (Dr, listOf (List.toArray ys) kr) :: (L + 1 + 1 + 1, o3) :: (L + 1 + 1, o2) :: (L + 1, o1) :: nw)) (off : OwnOff nw [L + 1 + 1 + 1])
    (hd1 : o1.data = .cell (some (.int (xs.length : Int) tz))) (hd2 : o2.data = .cell (some (.ref Dr))) (hd3 : o3.data = .cell none)
    (hI : IntsAre ys xs) (hx : xs.length ≤ 1060) (hmet : Met (Lg h₀ nw) xs ms ls) (hV : Vecs (Lg h₀ nw) ws xs) (hw0 : 0 < ws.length) (hw1 : ws.length ≤ 10) (hp : IntsAre pv ps) (hpb : ∀ k ∈ ps, 0 ≤ k ∧ k < (xs.length : Int)) (hpl : ps.length ≤ 12) (hls : IntsAre lv ls) (hlz : ls.length ≤ 4000) (hs0 : 0 ≤ sp) (hs1 : sp ≤ xs.length)
    (h : ∀ h' tk m' Da Du av uv ka ku, Fr h₀ L h' m' → HasC m' [(Str.ofString "put", .ref Du), (Str.ofString "after", .ref Da), (Str.ofString "lengths", .ref Dl), (Str.ofString "met", .ref Dm), (Str.ofString "places", .ref Dp), (Str.ofString "spot", .int sp tsp), (Str.ofString "ways", .ref Dw)] → News h₀ L h' ((Du, listOf (List.toArray uv) ku) :: (Da, listOf (List.toArray av) ka) :: (Dl, listOf (List.toArray lv) kl) :: (Dm, listOf (List.toArray ms) km) :: (Dp, listOf (List.toArray pv) kp) :: (Dw, listOf (List.toArray ws) kw) :: (Dr, listOf (List.toArray ys) kr) :: (L + 1 + 1 + 1, o3) :: (L + 1 + 1, o2) :: (L + 1, o1) :: nw) → IntsAre av (xs ++ [-9] ++ xs.take 33) → IntsAre uv ((xs ++ [-9] ++ xs.take 33).set sp.toNat (-5)) → Q .next { s with heap := h', toks := tk }) :
    wpAny (model prg w) A (execs (seg 21 23) (lawEnv L f cd)) Q (fun _ _ => False) s := by
  obtain ⟨hA, dp, fr, gd, un⟩ := A
  obtain rfl : hA = none := R.handled
  have F1 := frHas F H
  simp only [ifs] at F1
  clear F
  have hxl := hI.length
  k_steps
  refine wpAny_execs_nil (env := lawEnv L f cd) ?_
  rename Fr _ _ _ _ => F7
  rename News _ _ _ _ => N7
  rename IntsAre _ (_ ++ [-5] ++ _) => hU
  rename IntsAre _ (xs ++ [-9] ++ _) => hAf
  refine h _ _ _ _ _ _ _ _ _ F7 ⟨rfl, rfl, rfl, rfl, rfl, rfl, rfl, trivial⟩ (nwS N7 fun N => nwS (nwT (nwT (nwT (nwT N)))) fun N => nwT (nwT (nwT N))) hAf ?_
  rw [List.set_eq_take_append_cons_drop, if_pos (by simp only [List.length_append, List.length_cons, List.length_nil]; omega)]
  rw [show (sp + 1).toNat = sp.toNat + 1 by omega, List.append_assoc] at hU
  exact hU
end
section
theorem fillL13 : (fun (_ : OpenLaw) (_ : Params → Frag) => True) PySem.Challenge.rw_nc0018_01 hd.heap_1 := by
  k_fill
  exact True.intro
section
variable {w : World} {A : Around} {E : Value → Shared → Prop} {s : Shared} {Q : Value → Shared → Prop} {mg mb : Str → Option Value} {p : Program} {loose : List Str}
local macro_rules | `(tactic| walk_at "exec For Tuple Call cons nil") => `(tactic| (k_here; refine held_gen ?_; intro T9 hT9))
local macro_rules | `(tactic| walk_at "call type:zip") => `(tactic| (k_here; refine held_gen ?_; intro T9 hT9))
local macro_rules | `(tactic| walk_at "compareOp NotEq ref ref") => `(tactic| (k_here; refine held_gen ?_; intro T9 hT9))
theorem zip_off {I : Addr} {o1 o2 o3 o4 o5 : Obj} {news : List (Addr × Obj)} (h : ∀ p ∈ news, p.1 < I) : ∀ p ∈ news, ∀ q ∈ [(I + 4, o1), (I + 2, o2), (I + 3, o3), (I, o4), (I + 1, o5)], p.1 ≠ q.1 := by
  intro p hp q hq
  have hl : @LT.lt Nat _ p.1 I := h p hp
  simp only [List.mem_cons, List.not_mem_nil, or_false] at hq
  have : @Ne Nat p.1 q.1 := by
    rcases hq with rfl | rfl | rfl | rfl | rfl
    · exact Nat.ne_of_lt (Nat.lt_add_right 4 hl)
    · exact Nat.ne_of_lt (Nat.lt_add_right 2 hl)
    · exact Nat.ne_of_lt (Nat.lt_add_right 3 hl)
    · exact Nat.ne_of_lt hl
    · exact Nat.ne_of_lt (Nat.lt_add_right 1 hl)
  exact this
theorem zip_uncons {a b : List Value} {i : Nat} {x : Itm} {r : List Itm} (h : x :: r = zipItems (a.drop i) (b.drop i)) : ∃ u v, a[i]? = some u ∧ b[i]? = some v ∧ x = .pair (fun _ => u) v ∧ r = zipItems (a.drop (i + 1)) (b.drop (i + 1)) := by
  cases e : a.drop i with
  | nil => rw [e] at h; cases h
  | cons u q =>
    cases e2 : b.drop i with
    | nil => rw [e, e2] at h; cases h
    | cons v q2 =>
      rw [e, e2] at h
      have h1 : a[i]? = some u := by
        have := congrArg (fun l : List Value => l[0]?) e
        simpa using this
      have h2 : b[i]? = some v := by
        have := congrArg (fun l : List Value => l[0]?) e2
        simpa using this
      have h3 : a.drop (i + 1) = q := by
        have := congrArg List.tail e
        simpa using this
      have h4 : b.drop (i + 1) = q2 := by
        have := congrArg List.tail e2
        simpa using this
      rw [h3, h4]
      unfold zipItems at h
      injection h with a1 a2
      exact ⟨u, v, h1, h2, a1, a2⟩
theorem seg_13 {L f Dr Dw Dm Dl Dp : Addr} {cd : Value} {h₀ : Heap} {ys ms lv ws pv : List Value} {xs ls ps : List Int} {sp : Int} {tz tsp : Tok} {o1 o2 o3 : Obj} {kr km kl kw kp : Nat} {nw : List (Addr × Obj)} {m : Str → Option Value} {Q : Flow → Shared → Prop}
    {vway : Option Value} (X : (hd.heap_1 w.params).In h₀) (T : TopRead p loose mg mb h₀) (R : Room A 20)
    (F : Fr h₀ L s.heap m) (H : HasC m [(Str.ofString "lengths", .ref Dl), (Str.ofString "met", .ref Dm), (Str.ofString "places", .ref Dp), (Str.ofString "spot", .int sp tsp), (Str.ofString "ways", .ref Dw)]) (N : News h₀ L s.heap ((Dl, listOf (List.toArray lv) kl) :: (Dm, listOf (List.toArray ms) km) :: (Dp, listOf (List.toArray pv) kp) :: (Dw, listOf (List.toArray ws) kw) :: (Dr, listOf (List.toArray ys) kr) :: (L + 1 + 1 + 1, o3) :: (L + 1 + 1, o2) :: (L + 1, o1) :: nw)) (off : OwnOff nw [L + 1 + 1 + 1])
    (hd1 : o1.data = .cell (some (.int (xs.length : Int) tz))) (hd2 : o2.data = .cell (some (.ref Dr))) (hd3 : o3.data = .cell vway)
    (hI : IntsAre ys xs) (hx : xs.length ≤ 1060) (hmet : Met (Lg h₀ nw) xs ms ls) (hV' : Vecs (Lg h₀ nw) ws xs) (hw0 : 0 < ws.length) (hw1 : ws.length ≤ 10) (hp : IntsAre pv ps) (hpb : ∀ k ∈ ps, 0 ≤ k ∧ k < (xs.length : Int)) (hpl : ps.length ≤ 12) (hls : IntsAre lv ls) (hlz : ls.length ≤ 4000) (hs0 : 0 ≤ sp) (hs1 : sp ≤ xs.length)
    (h : ∀ h' tk m', Fr h₀ L h' m' → Q (.ret (.bool true)) { s with heap := h', toks := tk }) :
    wpAny (model prg w) A (execs (seg 24 26) (lawEnv L f cd)) Q (fun _ _ => False) s := by
  obtain ⟨hA, dp, fr, gd, un⟩ := A
  obtain rfl : hA = none := R.handled
  have F1 := frHas F H
  simp only [ifs] at F1
  clear F
  have hxl := hI.length
  k_steps
  rename (_ = exec _ _) => hT9
  subst hT9
  refine For_turns F1 ?_
  k_steps
  rename (_ = call _ _) => hT9
  subst hT9
  rename Fr _ _ _ _ => F8
  rename News _ _ _ _ => N8
  refine ktu_zip rfl F8 N8 (show (Dm, listOf ms.toArray km) ∈ _ by k_mem) rfl rfl (show (Dl, listOf lv.toArray kl) ∈ _ by k_mem) rfl rfl (fun I hII => ?_)
  refine items_inv (fun r m nx => ∃ i, r = zipItems (ms.drop i) (lv.drop i) ∧ HasC m [(Str.ofString "lengths", .ref Dl), (Str.ofString "met", .ref Dm), (Str.ofString "places", .ref Dp), (Str.ofString "spot", .int sp tsp), (Str.ofString "ways", .ref Dw)] ∧ nx = (Dl, listOf (List.toArray lv) kl) :: (Dm, listOf (List.toArray ms) km) :: (Dp, listOf (List.toArray pv) kp) :: (Dw, listOf (List.toArray ws) kw) :: (Dr, listOf (List.toArray ys) kr) :: (L + 1 + 1 + 1, o3) :: (L + 1 + 1, o2) :: (L + 1, o1) :: nw) ?_ ?_ _ _ _ ⟨0, rfl, ⟨rfl, rfl, rfl, rfl, rfl, trivial⟩, rfl⟩
  · rintro a r m1 nx v h9 tk9 ⟨i, hr, H9, rfl⟩ hv F9
    obtain ⟨u, y, hu, hy, rfl, rfl⟩ := zip_uncons hr
    obtain ⟨T9, t9, rfl, hT9⟩ := hv
    obtain ⟨z, tz9, rfl, hz⟩ := ints_at hls hy
    obtain ⟨a9, rfl, hz0, hz1, V9⟩ := hmet.get hu hz
    intro oe1 hoe1 oe2 hoe2 oe3 hoe3 oe4 hoe4 oe5 hoe5 N9
    clear F8 N8
    replace F9 := frHas F9 H9
    simp only [ifs] at F9
    have PV := V9
    obtain ⟨dx, tc, r, n, ts, t, to, ys', zs', vs', V9, hys⟩ := V9
    have ho := V9.obj
    have hdd := V9.dict
    simp only [List.cons_append, List.nil_append] at N9
    have htl : (List.take z.toNat xs).length = z.toNat := by rw [List.length_take]; omega
    k_steps
    rename Fr _ _ _ _ => F3
    rename News _ _ _ _ => N3
    refine len_spec (X.keeps F3.keep) (T.keeps F3.keep) (roomUp R (by dsimp only [Around.deeper, Around.in1]; omega) (by dsimp only [Around.deeper, Around.in1]; omega) rfl) (PV.mono (subLg F3 N3 (fun q hq => by k_ownIn))) (fun h4 tk4 t4 S4 => ?_)
    have F4 := frStay F3 S4
    have N4 := newsStay N3 S4
    clear F3 N3
    k_steps
    refine ⟨⟨by omega, by rw [htl]; omega⟩, ?_⟩
    k_steps
    · exfalso
      rename (_ ≠ _) => hne
      exact hne (by rw [htl]; omega)
    rename Fr _ _ _ _ => F5
    rename News _ _ _ _ => N5
    refine tolist_spec (X.keeps F5.keep) (T.keeps F5.keep) (R.less (by omega)) (PV.mono (subLg F5 N5 (fun q hq => by k_ownIn))) (by rw [htl]; omega) (fun h6 tk6 l6 vs6 S6 H6 hi6 => ?_)
    obtain ⟨k6, F6, N6, ne6⟩ := after1 F5 N5 S6 H6
    clear F5 N5
    k_steps
    rename (_ = compareOp _ _ _) => hT8
    subst hT8
    rename Fr _ _ _ _ => F7
    rename News _ _ _ _ => N7
    rename IntsAre _ (List.take _ xs) => hi7
    refine ne_intsK (Lst.isList ⟨_, N7.get (.tail _ (.head _))⟩) hi6 (Lst.isList ⟨_, N7.get (.head _)⟩) hi7 (by have := R.units; show un + 64 < cLine; dsimp only at this; omega) ?_
    rw [decide_eq_true rfl, Bool.not_true]
    k_steps
    rename Fr _ _ _ _ => F8
    rename News _ _ _ _ => N8
    refine ⟨_, _, _, (Dl, listOf (List.toArray lv) kl) :: (Dm, listOf (List.toArray ms) km) :: (Dp, listOf (List.toArray pv) kp) :: (Dw, listOf (List.toArray ws) kw) :: (Dr, listOf (List.toArray ys) kr) :: (L + 1 + 1 + 1, o3) :: (L + 1 + 1, o2) :: (L + 1, o1) :: nw, rfl, F8, nwT (nwT N8), zip_off hII, ⟨by k_mem, by k_mem, trivial⟩, i + 1, rfl, ⟨rfl, rfl, rfl, rfl, rfl, trivial⟩, rfl⟩
  · rintro m9 nx h9 tk9 ⟨i, hr, H9, rfl⟩ F9 N9
    clear F8 N8
    replace F9 := frHas F9 H9
    simp only [ifs] at F9
    k_steps
    rename Fr _ _ _ _ => F10
    exact h _ _ _ F10
end
end
section
theorem fillL14 : (fun (_ : OpenLaw) (_ : Params → Frag) => True) PySem.Challenge.rw_nc0018_01 hd.heap_1 := by
  k_fill
  exact True.intro
section
variable {w : World} {A : Around} {E : Value → Shared → Prop} {s : Shared} {Q : Value → Shared → Prop} {mg mb : Str → Option Value} {p : Program} {loose : List Str}
local macro_rules | `(tactic| walk_at "slice m") => `(tactic| exact kmk_from_neg (by l_ints) (by decide))
local macro_rules | `(tactic| walk_at "subscriptTail Name Constant ref int") => `(tactic| (k_here; k_dflt (refine' item_heap ?xl ?xa ?xb ?xh ?_; (case xl => kmk_list); (case xa => omega); (case xb => omega); (case xh => assumption))))
local macro_rules | `(tactic| k_ne) => `(tactic| (refine neN ?_; (try dsimp only); first | with_reducible assumption | (refine Ne.symm ?_; with_reducible assumption)))
local macro_rules | `(tactic| walk_at "exec For Name Name cons nil") => `(tactic| (k_here; refine held_gen ?_; intro T9 hT9))
local macro_rules | `(tactic| walk_at "pyIter ref") => `(tactic| (k_here; refine held_gen ?_; intro T9 hT9))
local macro_rules | `(tactic| walk_at "compareOp NotEq ref ref") => `(tactic| (k_here; refine held_gen ?_; intro T9 hT9))
local macro_rules | `(tactic| walk_at "compareOp Eq ref ref") => `(tactic| (k_here; refine held_gen ?_; intro T9 hT9))
local macro_rules | `(tactic| walk_at "eval ListComp") => `(tactic| (k_here; refine held_gen ?_; intro T9 hT9))
local macro_rules | `(tactic| walk_at "CompSrcT") => `(tactic| (refine Hold.mk ?_))
local macro_rules | `(tactic| walk_at "CompSrcT ref") => `(tactic| (refine Hold.mk ?_))
local macro_rules | `(tactic| walk_at "CompSrc") => `(tactic| (refine Hold.mk ?_))
local macro_rules | `(tactic| walk_at "CompSrc ref") => `(tactic| (refine Hold.mk ?_))
section
variable {h₀ h h' : Heap} {L : Addr} {m : Str → Option Value} {news nw nw' : List (Addr × Obj)}
theorem refit0 {x : Str} {v : Value} (F : Fr h₀ L h m) (hm : m x = some v) (S : Stay h h') (N : News h₀ L h news) (sub : ∀ p ∈ nw, p ∈ news) :
    ∃ nw', News h₀ L h' nw' ∧ Le (Lg h₀ nw) (Lg h₀ nw') ∧ ∀ a ys, PVec (At h') a ys → PVec (Lg h₀ nw') a ys := by
  obtain ⟨nw', N', _, le, U⟩ := refitV (ex := []) F hm S N sub (fun _ _ _ hb => nomatch hb) trivial
  exact ⟨nw', N', le, U⟩
theorem nwBack {h1 : Heap} (N0 : News h₀ L h1 news) (sub : ∀ p ∈ nw, p ∈ news) (F1 : Fr h₀ L h' m) (N1 : News h₀ L h' nw') (le : Le (Lg h₀ nw) (Lg h₀ nw')) : News h₀ L h' nw :=
  fun p hp => ⟨lg_at F1 N1 _ _ (le _ _ (.inr hp)), (N0 p (sub p hp)).2⟩
theorem neCell {a b : Addr} {o : Obj} {its : Array Value} {k : Nat} {v : Option Value} (N : News h₀ L h news) (h1 : (a, listOf its k) ∈ news) (h2 : (b, o) ∈ news) (hd : o.data = .cell v) : @Ne Nat a b := by
  intro e
  have e1 := N.get h1
  have e2 := N.get h2
  have e' : a = b := e
  rw [e', e2] at e1
  injection e1 with e1
  rw [e1] at hd
  cases hd
end
theorem val_uncons {ws : List Value} {i : Nat} {a : Itm} {r : List Itm} (h : a :: r = (ws.drop i).map .val) : ∃ v, ws[i]? = some v ∧ a = .val v ∧ r = (ws.drop (i + 1)).map .val := by
  cases e : ws.drop i with
  | nil => rw [e] at h; cases h
  | cons v q =>
    rw [e] at h
    have h1 : ws[i]? = some v := by
      have := congrArg (fun l : List Value => l[0]?) e
      simpa using this
    have h2 : ws.drop (i + 1) = q := by
      have := congrArg List.tail e
      simpa using this
    rw [h2]
    injection h with a1 a2
    exact ⟨v, h1, a1, a2⟩
theorem take_map_succ {qs : List Int} {f : Int → Int} {i : Nat} {z : Int} (h : qs[i]? = some z) : (qs.take (i + 1)).map f = (qs.take i).map f ++ [f z] := by
  rw [List.take_add_one, h, List.map_append]
  rfl
theorem off_cell {I x : Addr} {o o' : Obj} {c r : List (Addr × Obj)} (h : ∀ p ∈ c ++ (x, o) :: r, p.1 < I) : ∀ p ∈ c ++ (x, o') :: r, p.1 ≠ I := by
  intro p hp
  have : @LT.lt Nat _ p.1 I := by
    rcases List.mem_append.mp hp with e | e
    · exact h p (List.mem_append_left _ e)
    · rcases List.mem_cons.mp e with e | e
      · have := h (x, o) (List.mem_append_right _ (.head _))
        rw [e]
        exact this
      · exact h p (List.mem_append_right _ (.tail _ e))
  exact Nat.ne_of_lt this
theorem seg_12 {L f Dr Dw Dm Dl Dp : Addr} {cd : Value} {h₀ : Heap} {ys ms lv ws pv : List Value} {xs ls ps : List Int} {sp : Int} {tz tsp : Tok} {o1 o2 o3 : Obj} {kr km kl kw kp : Nat} {Du Da : Addr} {uv av : List Value} {ku ka : Nat} {nw : List (Addr × Obj)} {m : Str → Option Value} {Q : Flow → Shared → Prop}
    (X : (hd.heap_1 w.params).In h₀) (T : TopRead p loose mg mb h₀) (R : Room A 20)
    (F : Fr h₀ L s.heap m) (H : HasC m [(Str.ofString "put", .ref Du), (Str.ofString "after", .ref Da), (Str.ofString "lengths", .ref Dl), (Str.ofString "met", .ref Dm), (Str.ofString "places", .ref Dp), (Str.ofString "spot", .int sp tsp), (Str.ofString "ways", .ref Dw)]) (N : News h₀ L s.heap ((Du, listOf (List.toArray uv) ku) :: (Da, listOf (List.toArray av) ka) :: (Dl, listOf (List.toArray lv) kl) :: (Dm, listOf (List.toArray ms) km) :: (Dp, listOf (List.toArray pv) kp) :: (Dw, listOf (List.toArray ws) kw) :: (Dr, listOf (List.toArray ys) kr) :: (L + 1 + 1 + 1, o3) :: (L + 1 + 1, o2) :: (L + 1, o1) :: nw)) (off : OwnOff nw [L + 1 + 1 + 1])
    (hd1 : o1.data = .cell (some (.int (xs.length : Int) tz))) (hd2 : o2.data = .cell (some (.ref Dr))) (hd3 : o3.data = .cell none)
    (hI : IntsAre ys xs) (hx : xs.length ≤ 1060) (hmet : Met (Lg h₀ nw) xs ms ls) (hV : Vecs (Lg h₀ nw) ws xs) (hw0 : 0 < ws.length) (hw1 : ws.length ≤ 10) (hp : IntsAre pv ps) (hpb : ∀ k ∈ ps, 0 ≤ k ∧ k < (xs.length : Int)) (hpl : ps.length ≤ 12) (hls : IntsAre lv ls) (hlz : ls.length ≤ 4000) (hs0 : 0 ≤ sp) (hs1 : sp ≤ xs.length) (hav : IntsAre av (xs ++ [-9] ++ xs.take 33)) (huv : IntsAre uv ((xs ++ [-9] ++ xs.take 33).set sp.toNat (-5)))
    (h : ∀ h' tk m' o3' vway, Fr h₀ L h' m' → HasC m' [(Str.ofString "lengths", .ref Dl), (Str.ofString "met", .ref Dm), (Str.ofString "places", .ref Dp), (Str.ofString "spot", .int sp tsp), (Str.ofString "ways", .ref Dw)] → News h₀ L h' ((Dl, listOf (List.toArray lv) kl) :: (Dm, listOf (List.toArray ms) km) :: (Dp, listOf (List.toArray pv) kp) :: (Dw, listOf (List.toArray ws) kw) :: (Dr, listOf (List.toArray ys) kr) :: (L + 1 + 1 + 1, o3') :: (L + 1 + 1, o2) :: (L + 1, o1) :: nw) → o3'.data = .cell vway → Q .next { s with heap := h', toks := tk }) :
    wpAny (model prg w) A (execs (seg 23 24) (lawEnv L f cd)) Q (fun _ _ => False) s := by
  obtain ⟨hA, dp, fr, gd, un⟩ := A
  obtain rfl : hA = none := R.handled
  have F1 := frHas F H
  simp only [ifs] at F1
  clear F
  have hxl := hI.length
  have hpl2 := hp.length
  obtain ⟨v0, hv0⟩ : ∃ v, ws[(0 : Int).toNat]? = some v := ⟨_, List.getElem?_eq_getElem (by show 0 < ws.length; omega)⟩
  obtain ⟨a0, rfl, V0⟩ := hV v0 (List.mem_of_getElem? hv0)
  have hlaf : (xs ++ [-9] ++ xs.take 33).length ≤ 1100 := by simp only [List.length_append, List.length_cons, List.length_nil, List.length_take]; omega
  have nu := neCell N (show (Du, listOf (List.toArray uv) ku) ∈ _ by k_mem) (show (L + 1 + 1 + 1, o3) ∈ _ by k_mem) hd3
  have na := neCell N (show (Da, listOf (List.toArray av) ka) ∈ _ by k_mem) (show (L + 1 + 1 + 1, o3) ∈ _ by k_mem) hd3
  have nl := neCell N (show (Dl, listOf (List.toArray lv) kl) ∈ _ by k_mem) (show (L + 1 + 1 + 1, o3) ∈ _ by k_mem) hd3
  have nm := neCell N (show (Dm, listOf (List.toArray ms) km) ∈ _ by k_mem) (show (L + 1 + 1 + 1, o3) ∈ _ by k_mem) hd3
  have np := neCell N (show (Dp, listOf (List.toArray pv) kp) ∈ _ by k_mem) (show (L + 1 + 1 + 1, o3) ∈ _ by k_mem) hd3
  have nww := neCell N (show (Dw, listOf (List.toArray ws) kw) ∈ _ by k_mem) (show (L + 1 + 1 + 1, o3) ∈ _ by k_mem) hd3
  have nr := neCell N (show (Dr, listOf (List.toArray ys) kr) ∈ _ by k_mem) (show (L + 1 + 1 + 1, o3) ∈ _ by k_mem) hd3
  k_steps
  rename (_ = exec _ _) => hT9
  subst hT9
  refine For_turns F1 ?_
  k_steps
  rename (_ = pyIter _) => hT9
  subst hT9
  rename Fr _ _ _ _ => F8
  rename News _ _ _ _ => N8
  have N00 := N8
  refine iter_listTurns rfl F8 N8 (show (Dw, listOf ws.toArray kw) ∈ _ by k_mem) rfl rfl (fun I hII => ?_)
  have nI : @Ne Nat I (L + 1 + 1 + 1) := Nat.ne_of_gt (hII (L + 1 + 1 + 1, o3) (by k_mem))
  refine items_inv (fun r m nx => ∃ i o3' vway, r = (ws.drop i).map .val ∧ HasC m [(Str.ofString "put", .ref Du), (Str.ofString "after", .ref Da), (Str.ofString "lengths", .ref Dl), (Str.ofString "met", .ref Dm), (Str.ofString "places", .ref Dp), (Str.ofString "spot", .int sp tsp), (Str.ofString "ways", .ref Dw)] ∧ nx = (Du, listOf (List.toArray uv) ku) :: (Da, listOf (List.toArray av) ka) :: (Dl, listOf (List.toArray lv) kl) :: (Dm, listOf (List.toArray ms) km) :: (Dp, listOf (List.toArray pv) kp) :: (Dw, listOf (List.toArray ws) kw) :: (Dr, listOf (List.toArray ys) kr) :: (L + 1 + 1 + 1, o3') :: (L + 1 + 1, o2) :: (L + 1, o1) :: nw ∧ o3'.data = .cell vway) ?_ ?_ _ _ _ ⟨0, o3, _, rfl, ⟨rfl, rfl, rfl, rfl, rfl, rfl, rfl, trivial⟩, rfl, hd3⟩
  · rintro a r m1 nx v h9 tk9 ⟨i, o3', vway, hr, H9, rfl, hd3'⟩ hv F9
    obtain ⟨u, hu, rfl, rfl⟩ := val_uncons hr
    obtain rfl : v = u := hv
    obtain ⟨b, rfl, V9⟩ := hV _ (List.mem_of_getElem? hu)
    intro oe1 hoe1 N9
    clear F8 N8
    replace F9 := frHas F9 H9
    simp only [ifs] at F9
    have PV := V9
    obtain ⟨dx, tc, r, n, ts, t, to, ys', zs', vs', V9, hys⟩ := V9
    have ho := V9.obj
    have hdd := V9.dict
    simp only [List.cons_append, List.nil_append] at N9
    k_steps
    rename Fr _ _ _ _ => F10
    rename News _ _ _ _ => N10
    refine append_spec (X.keeps F10.keep) (T.keeps F10.keep) (R.less (by omega)) (PV.mono (subLg F10 N10 (fun q hq => by k_ownIn))) (by omega) (fun h11 tk11 a11 S11 V11 => ?_)
    try dsimp only
    replace V11 := V11.vec
    obtain ⟨nw11, Nw11, le11, U11⟩ := refit0 (nw := nw) (x := Str.ofString "ways") F10 rfl S11 N10 (fun q hq => by k_ownIn)
    have F11 := frStay F10 S11
    have N11 := nwS (newsStay N10 S11) fun N => nwS N fun N => nwS N fun N => nwS N fun N => nwS N fun N => nwS N fun N => nwS N fun N => nwS N fun N => nwS N fun N => nwS N fun N => nwS N fun _ => Nw11
    clear F10 N10
    replace V11 := U11 _ _ V11
    have PV11 := V11
    obtain ⟨dxb, tcb, rb, nb, tsb, tb, tob, ysb, zsb, vsb, V11, hysb⟩ := V11
    have hob := V11.obj
    have hdb := V11.dict
    k_steps
    rename Fr _ _ _ _ => F12
    rename News _ _ _ _ => N12
    rename IntsAre _ (List.take _ xs) => hI12
    refine extend_spec (X.keeps F12.keep) (T.keeps F12.keep) (R.less (by omega)) (PV11.mono (subLg F12 N12 (fun q hq => by k_ownIn))) ⟨_, N12.get (.head _)⟩ hI12 (by simp only [List.length_append, List.length_cons, List.length_nil, List.length_take]; omega) (fun h13 tk13 a13 S13 V13 _ => ?_)
    try dsimp only
    obtain ⟨nw13, Nw13, le13, U13⟩ := refit0 (nw := nw11) (x := Str.ofString "ways") F12 rfl S13 N12 (fun q hq => by k_ownIn)
    have F13 := frStay F12 S13
    have N13 := nwS (nwT (newsStay N12 S13)) fun N => nwS N fun N => nwS N fun N => nwS N fun N => nwS N fun N => nwS N fun N => nwS N fun N => nwS N fun N => nwS N fun N => nwS N fun N => nwS N fun _ => Nw13
    clear F12 N12
    have PV13 : PVec (Lg h₀ nw13) a13 (xs ++ [-9] ++ xs.take 33) := U13 _ _ V13
    clear V13 hob hdb V11 PV11 U11 U13
    obtain ⟨dxc, tcc, rc, nc, tsc, tc', toc, ysc, zsc, vsc, V13, hysc⟩ := id PV13
    have hoc := V13.obj
    have hdc := V13.dict
    k_steps
    rename Fr _ _ _ _ => F14
    rename News _ _ _ _ => N14
    refine set_spec (j := sp.toNat) (X.keeps F14.keep) (T.keeps F14.keep) (R.less (by omega)) (PV13.mono (subLg F14 N14 (fun q hq => by k_ownIn))) (by omega) (by simp only [List.length_append, List.length_cons, List.length_nil]; omega) (by omega) (fun h15 tk15 a15 S15 V15 => ?_)
    try dsimp only
    obtain ⟨nw15, Nw15, le15, U15⟩ := refit0 (nw := nw13) (x := Str.ofString "ways") F14 rfl S15 N14 (fun q hq => by k_ownIn)
    have F15 := frStay F14 S15
    have N15 := nwS (newsStay N14 S15) fun N => nwS N fun N => nwS N fun N => nwS N fun N => nwS N fun N => nwS N fun N => nwS N fun N => nwS N fun N => nwS N fun N => nwS N fun N => nwS N fun _ => Nw15
    clear F14 N14
    have PV15 := U15 _ _ V15
    have le : Le (Lg h₀ nw) (Lg h₀ nw15) := fun _ _ e => le15 _ _ (le13 _ _ (le11 _ _ e))
    clear V15 hoc hdc V13 U15
    obtain ⟨dxd, tcd, rd, nd, tsd, td', tod, ysd, zsd, vsd, V15, hysd⟩ := id PV15
    have hod := V15.obj
    have hdd2 := V15.dict
    replace PV := PV.mono le
    replace PV13 := PV13.mono le15
    replace V0 := V0.mono le
    replace ho := le _ _ ho
    replace hdd := le _ _ hdd
    clear le15 le13 le11 S11 S13 S15
    rename (I < _ ∧ _) => q1
    rename ((List.take 33 xs).length = _) => q2
    rename ((List.take 33 xs).length ≤ _) => q3
    clear q1 q2 q3 hysb hysc hysd
    k_steps
    rename Fr _ _ _ _ => F16
    rename News _ _ _ _ => N16
    refine tolist_spec (X.keeps F16.keep) (T.keeps F16.keep) (R.less (by omega)) (PV15.mono (subLg F16 N16 (fun q hq => by k_ownIn))) (by rw [List.length_set]; omega) (fun h17 tk17 l17 vs17 S17 H17 hi17 => ?_)
    try dsimp only
    obtain ⟨k17, F17, N17, ne17⟩ := after1 F16 N16 S17 H17
    clear F16 N16 hod hdd2 V15
    k_steps
    rename (_ = compareOp _ _ _) => hT9
    subst hT9
    rename Fr _ _ _ _ => F18
    rename News _ _ _ _ => N18
    refine ne_intsK (Lst.isList ⟨_, N18.get (.head _)⟩) hi17 (Lst.isList ⟨_, N18.get (show (Du, listOf (List.toArray uv) ku) ∈ _ by k_mem)⟩) huv (by have := R.units; show un + 64 < cLine; dsimp only at this; omega) ?_
    rw [decide_eq_true rfl, Bool.not_true]
    k_steps
    rename Fr _ _ _ _ => F19
    rename News _ _ _ _ => N19
    refine holds_spec (X.keeps F19.keep) (T.keeps F19.keep) (R.less (by omega)) (PV13.mono (subLg F19 N19 (fun q hq => by k_ownIn))) (by omega) ⟨_, N19.get (show (Da, listOf (List.toArray av) ka) ∈ _ by k_mem)⟩ hav (fun h20 tk20 S20 => ?_)
    try dsimp only
    have F20 := frStay F19 S20
    have N20 := nwT (newsStay N19 S20)
    clear F19 N19
    k_steps
    rename Fr _ _ _ _ => F21
    rename News _ _ _ _ => N21
    refine len_spec (X.keeps F21.keep) (T.keeps F21.keep) (roomUp R (by dsimp only [Around.deeper, Around.in1]; omega) (by dsimp only [Around.deeper, Around.in1]; omega) rfl) (PV.mono (subLg F21 N21 (fun q hq => by k_ownIn))) (fun h22 tk22 t22 S22 => ?_)
    try dsimp only
    have F22 := frStay F21 S22
    have N22 := newsStay N21 S22
    clear F21 N21
    k_steps
    refine ⟨⟨by omega, by omega⟩, ?_⟩
    k_steps
    · exfalso
      rename (_ ≠ _) => hne
      exact hne rfl
    rename Fr _ _ _ _ => F23
    rename News _ _ _ _ => N23
    refine tolist_spec (X.keeps F23.keep) (T.keeps F23.keep) (R.less (by omega)) (PV.mono (subLg F23 N23 (fun q hq => by k_ownIn))) (by omega) (fun h24 tk24 l24 vs24 S24 H24 hi24 => ?_)
    try dsimp only
    obtain ⟨k24, F24, N24, ne24⟩ := after1 F23 N23 S24 H24
    clear F23 N23
    k_steps
    rename (_ = compareOp _ _ _) => hT9
    subst hT9
    rename Fr _ _ _ _ => F25
    rename News _ _ _ _ => N25
    refine ne_intsK (Lst.isList ⟨_, N25.get (.head _)⟩) hi24 (Lst.isList ⟨_, N25.get (show (Dr, listOf (List.toArray ys) kr) ∈ _ by k_mem)⟩) hI (by have := R.units; show un + 64 < cLine; dsimp only at this; omega) ?_
    rw [decide_eq_true rfl, Bool.not_true]
    obtain ⟨dx0, tc0, r0, n0, ts0, t0, to0, ys0, zs0, vs0, V00, hys0⟩ := id V0
    have ho0 := V00.obj
    have hd0 := V00.dict
    k_steps
    rename (_ = compareOp _ _ _) => hT9
    subst hT9
    rename Fr _ _ _ _ => F26
    rename News _ _ _ _ => N26
    refine cmp_ofEq ?_
    refine' cmp_K (by have := R.units; show un < cLine; dsimp only at this; omega) F26 X ?k4 ?k5 ?k6 ?k7 ?k8 ?_
    (case k4 => k_inst)
    (case k5 => k_typeOf)
    (case k6 => k_dflt k_is)
    (case k7 => k_dflt k_is)
    (case k8 => k_dflt k_is)
    refine eq_spec (X.keeps F26.keep) (T.keeps F26.keep) (R.less (by omega)) (PV.mono (subLg F26 N26 (fun q hq => by k_ownIn))) (V0.mono (subLg F26 N26 (fun q hq => by k_ownIn))) (by omega) (fun h27 tk27 S27 => ?_)
    try dsimp only
    have F27 := frStay F26 S27
    have N27 := newsStay N26 S27
    clear F26 N26 ho0 hd0 V00
    dsimp only [PySem.W.CmpBack]
    k_steps
    rename (_ = eval _ _) => hT9
    subst hT9
    rename Fr _ _ _ _ => F28
    with_reducible refine' LCg.ListComp_U F28 ?a3 ?a4 ?a5 ?a6 ?a7 ?_ ?a10
    (case a3 => with_unfolding_all rfl)
    (case a4 => decide)
    (case a5 => rfl)
    (case a6 => decide)
    (case a7 => rfl)
    (case a10 => intro _; rfl)
    k_steps
    unfold Hold
    rename Fr _ _ _ _ => F30
    rename News _ _ _ _ => N30
    rename IntsAre _ (List.drop _ ps) => hI30a
    have hI30 : IntsAre _ (List.drop (ps.length - 5) ps) := hI30a
    clear hI30a
    rename (l24 < _ ∧ _) => q4
    rename ((List.drop _ ps).length = _) => q5
    rename ((List.drop _ ps).length ≤ _) => q6
    clear q4 q5
    have hqb : ∀ k ∈ List.drop (ps.length - 5) ps, 0 ≤ k ∧ k < (xs.length : Int) := fun k hk => hpb k (List.mem_of_mem_drop hk)
    have hql : (List.drop (ps.length - 5) ps).length ≤ ps.length := by rw [List.length_drop]; exact Nat.sub_le _ _
    generalize hqq : List.drop (ps.length - 5) ps = qs at *
    have hqv30 := hI30.length
    refine LCg.CompSrc.ledger (by rfl) F30 N30 (.head _) (by rw [List.size_toArray, sizeLine_eq]; omega) (fun g30 => ?_)
    try dsimp only
    refine compU_inv (fun i us => IntsAre us ((qs.take i).map fun k => xs.getD k.toNat 0)) (.inr ⟨_, .head _, rfl, _, rfl⟩) ?_ ?_ .nil
    · rintro j v us I2 oI2 C2 oC2 D2 m2 h31 tk31 E3 hi hv hus hC hm F31 N31 off31 ne31
      rw [List.getElem?_toArray] at hv
      obtain ⟨z, tz2, rfl, hz⟩ := ints_at hI30 hv
      have hzb := hqb z (List.mem_of_getElem? hz)
      clear F30 N30
      simp only [LCg.Off3, and_true] at off31
      obtain ⟨zn, rfl⟩ : ∃ j : Nat, z = j := ⟨z.toNat, by omega⟩
      k_steps
      rename Fr _ _ _ _ => F32
      rename News _ _ _ _ => N32
      refine getitem_spec (j := zn) (X.keeps F32.keep) (T.keeps F32.keep) (roomUp R (by dsimp only [Around.deeper, Around.in1]; omega) (by dsimp only [Around.deeper, Around.in1]; omega) rfl) (PV.mono (subLg F32 N32 (fun q hq => by k_ownIn))) (by omega) (by omega) (fun h33 tk33 t33 S33 => ?_)
      try dsimp only
      have F33 := frStay F32 S33
      have N33 := newsStay N32 S33
      clear F32 N32
      k_steps
      exact CEnd.intro F33 N33 (by rw [take_map_succ hz]; exact hus.append (.cons _ _ .nil))
    rintro us30 hus30
    rw [List.size_toArray, hqv30, List.take_length] at hus30
    intro D30 h33 tk33 F33 N33 off33
    clear F30 N30
    clear off33
    dsimp only
    k_steps
    rename (_ = eval _ _) => hT9
    subst hT9
    rename Fr _ _ _ _ => F38
    with_reducible refine' LCg.ListComp_U F38 ?a3 ?a4 ?a5 ?a6 ?a7 ?_ ?a10
    (case a3 => with_unfolding_all rfl)
    (case a4 => decide)
    (case a5 => rfl)
    (case a6 => decide)
    (case a7 => rfl)
    (case a10 => intro _; rfl)
    k_steps
    unfold Hold
    rename Fr _ _ _ _ => F40
    rename News _ _ _ _ => N40
    rename IntsAre _ (List.drop _ ps) => hI40a
    have hI40 : IntsAre _ (List.drop (ps.length - 5) ps) := hI40a
    clear hI40a
    rename (D30 < _ ∧ _) => q7
    clear q7 S27 ne24
    rw [hqq] at hI40
    have hqv40 := hI40.length
    refine LCg.CompSrc.ledger (by rfl) F40 N40 (.head _) (by rw [List.size_toArray, sizeLine_eq]; omega) (fun g40 => ?_)
    try dsimp only
    refine compU_inv (fun i us => IntsAre us ((qs.take i).map fun k => xs.getD k.toNat 0)) (.inr ⟨_, .head _, rfl, _, rfl⟩) ?_ ?_ .nil
    · rintro j v us I2 oI2 C2 oC2 D2 m2 h41 tk41 E3 hi hv hus hC hm F41 N41 off41 ne41
      rw [List.getElem?_toArray] at hv
      obtain ⟨z, tz2, rfl, hz⟩ := ints_at hI40 hv
      have hzb := hqb z (List.mem_of_getElem? hz)
      clear F40 N40
      simp only [LCg.Off3, and_true] at off41
      k_steps
      exact CEnd.intro F41 N41 (by rw [take_map_succ hz]; exact hus.append (.cons _ _ .nil))
    rintro us40 hus40
    rw [List.size_toArray, hqv40, List.take_length] at hus40
    intro D40 h43 tk43 F43 N43 off43
    clear F40 N40
    clear off43
    dsimp only
    k_steps
    rename (_ = compareOp _ _ _) => hT9
    subst hT9
    rename Fr _ _ _ _ => F45
    rename News _ _ _ _ => N45
    refine ne_intsK (Lst.isList ⟨_, N45.get (.tail _ (.tail _ (.head _)))⟩) hus30 (Lst.isList ⟨_, N45.get (.head _)⟩) hus40 (by have := R.units; show un + 64 < cLine; dsimp only at this; omega) ?_
    rw [decide_eq_true rfl, Bool.not_true]
    k_steps
    rename Fr _ _ _ _ => F50
    rename News _ _ _ _ => N50
    have nwB := nwBack (nw := nw) (nw' := nw15) N9 (fun q hq => by k_ownIn) F50 (fun q hq => N50 q (by k_ownIn)) le
    refine ⟨_, _, _, (Du, listOf (List.toArray uv) ku) :: (Da, listOf (List.toArray av) ka) :: (Dl, listOf (List.toArray lv) kl) :: (Dm, listOf (List.toArray ms) km) :: (Dp, listOf (List.toArray pv) kp) :: (Dw, listOf (List.toArray ws) kw) :: (Dr, listOf (List.toArray ys) kr) :: (L + 1 + 1 + 1, _) :: (L + 1 + 1, o2) :: (L + 1, o1) :: nw, rfl, F50, nwS (nwT (nwT (nwT (nwT (nwT N50))))) fun N => nwS N fun N => nwS N fun N => nwS N fun N => nwS N fun N => nwS N fun N => nwS N fun N => nwS N fun N => nwS N fun N => nwS N fun N => nwS N fun _ => nwB, ?_, ⟨by k_mem, trivial⟩, i + 1, _, _, rfl, ⟨rfl, rfl, rfl, rfl, rfl, rfl, rfl, trivial⟩, rfl, by assumption⟩
    intro q hq q2 hq2
    rw [List.mem_singleton.mp hq2]
    exact off_cell (c := (Du, listOf (List.toArray uv) ku) :: (Da, listOf (List.toArray av) ka) :: (Dl, listOf (List.toArray lv) kl) :: (Dm, listOf (List.toArray ms) km) :: (Dp, listOf (List.toArray pv) kp) :: (Dw, listOf (List.toArray ws) kw) :: (Dr, listOf (List.toArray ys) kr) :: []) hII q hq
  · rintro m9 nx h9 tk9 ⟨i, o3', vway, hr, H9, rfl, hd3'⟩ F9 N9
    clear F8 N8
    replace F9 := frHas F9 H9
    simp only [ifs] at F9
    k_steps
    refine wpAny_execs_nil (env := lawEnv L f cd) ?_
    rename Fr _ _ _ _ => F10
    rename News _ _ _ _ => N10
    exact h _ _ _ _ _ F10 ⟨rfl, rfl, rfl, rfl, rfl, trivial⟩ (nwT (nwT N10)) hd3'
end
end
theorem jb {a b : Nat} (h : a = 2) (h1 : b ≤ a + 1) : b ≤ 6 := by omega
theorem jb7 {a b c : Nat} (h : a = 2) (h1 : b ≤ a + 1) (h2 : c ≤ b + 1) : c ≤ 6 := by omega
theorem jb10 {a b c d : Nat} (h : a = 2) (h1 : b ≤ a + 1) (h2 : c ≤ b + 1) (h3 : d ≤ c + 1) : d ≤ 6 := by omega
theorem law_body {w : World} {A : Around} {s : Shared} {mg mb : Str → Option Value} {p : Program} {loose : List Str} {L f l : Addr} {cd : Value} {h₀ : Heap} {vs : List Value} {ns : List Int} {o1 o2 o3 : Obj} {Q : Flow → Shared → Prop}
    (X : (hd.heap_1 w.params).In h₀) (T : TopRead p loose mg mb h₀) (R : Room A 20)
    (F : Fr h₀ L s.heap (fun y => if y = Str.ofString "script" then some (.ref l) else none)) (N : News h₀ L s.heap [(L + 1 + 1 + 1, o3), (L + 1 + 1, o2), (L + 1, o1)])
    (hd1 : o1.data = .cell none) (hd2 : o2.data = .cell none) (hd3 : o3.data = .cell none)
    (hL : h₀.IsList l vs.toArray) (hI : IntsAre vs ns) (hl : vs.length ≤ 63)
    (h : ∀ h' tk m', Fr h₀ L h' m' → Q (.ret (.bool true)) { s with heap := h', toks := tk }) :
    wpAny (model prg w) A (execs (lawBody.drop 0) (lawEnv L f cd)) Q (fun _ _ => False) s := by
  with_reducible refine law_seg (i := 0) (j := 1) (by decide) ?_
  refine seg_0 X T R F N hL hI hl (fun h1 tk1 D n0 n1 n2 t0 t1 t2 wr nr F1 N1 hnr hnr2 hnr65 l1 => ?_)
  dsimp only
  with_reducible refine law_seg (i := 1) (j := 6) (by decide) ?_
  refine seg_1 X T R F1 N1 hd1 hd2 hd3 hnr hnr2 hnr65 l1 (fun h2 tk2 Dr Dc ys xs kr bv tz o2' o1' cs chs F2 N2 hd2' hd1' hIy hx hc hcl lr lc => ?_)
  dsimp only
  with_reducible refine law_seg (i := 6) (j := 11) (by decide) ?_
  refine seg_2 (chs := chs) (nr := nr) X T R F2 N2 hd1' hd2' hd3 hIy hx lr lc (fun h3 tk3 m3 Dw Dm Dl a1 g d td nw F3 H3 N3 off3 lt3 d0 d1 V1 V2 => ?_)
  have lt : @LT.lt Nat _ (L + 1 + 1 + 1) D ∧ @LT.lt Nat _ D Dr ∧ @LT.lt Nat _ Dr Dc ∧ @LT.lt Nat _ Dc Dw ∧ @LT.lt Nat _ Dw Dm ∧ @LT.lt Nat _ Dm Dl := ⟨l1.1, lr.1, lc.1, lt3.1, lt3.2.1, lt3.2.2⟩
  dsimp only
  with_reducible refine law_seg (i := 11) (j := 12) (by decide) ?_
  refine seg_3 X T R F3 H3 N3 off3 hd1' hd2' hd3 hIy hx hnr hnr65 lt d0 d1 V1 V2 (fun h4 tk4 m4 g4 d4 td4 ms lv ls km kl nw4 F4 H4 N4 off4 hls hmet hl0 hl6 d40 d41 V4 V41 => ?_)
  dsimp only
  with_reducible refine law_seg (i := 12) (j := 14) (by decide) ?_
  refine seg_4 X T R F4 H4 N4 off4 hd1' hd2' hd3 hIy hx lt hls hmet hl0 hl6 d40 d41 V4 V41 (fun h5 tk5 m5 ws5 kw5 nw5 F5 H5 N5 off5 hmet5 hV5 hw5 => ?_)
  dsimp only
  with_reducible refine law_seg (i := 14) (j := 16) (by decide) ?_
  refine seg_5 (nr := nr) X T R F5 H5 N5 off5 hd1' hd2' hd3 hIy hx hc hcl lt hmet5 hV5 (hw5 ▸ by decide) (hw5 ▸ by decide) (fun h6 tk6 m6 ws6 kw6 nw6 sp tsp F6 H6 N6 off6 hmet6 hV6 hw6 hw6' hs0 hs1 => ?_)
  dsimp only
  with_reducible refine law_seg (i := 16) (j := 17) (by decide) ?_
  refine seg_6 (nr := nr) X T R F6 H6 N6 off6 hd1' hd2' hd3 hIy hx hc hcl lt hmet6 hV6 hw6 (jb hw5 hw6') hs0 hs1 (fun h7 tk7 m7 ws7 kw7 nw7 F7 H7 N7 off7 hmet7 hV7 hw7 hw7' => ?_)
  have q7 : ws7.length ≤ 6 := jb7 hw5 hw6' hw7'
  dsimp only
  with_reducible refine law_seg (i := 17) (j := 18) (by decide) ?_
  refine @seg_7 w A ⟨h7, s.gens, s.drawn, tk7, s.os⟩ mg mb p loose L f D Dr Dc Dw Dm Dl cd h₀ wr ys cs ms lv ws7 xs ls chs nr n0 n1 n2 sp t0 t1 t2 tz tsp o1' o2' o3 kr km kl kw7 nw7 m7 _ X T R F7 H7 N7 off7 hd1' hd2' hd3 hIy hx hc hcl lt hmet7 hV7 hw7 q7 hs0 hs1 hnr hnr65 ?_
  intro h8 tk8 m8 Dp pv ps kp F8 H8 N8 offp hp hpb hpl
  dsimp only
  with_reducible refine law_seg (i := 18) (j := 19) (by decide) ?_
  refine @seg_8 w A ⟨h8, s.gens, s.drawn, tk8, s.os⟩ mg mb p loose L f D Dr Dc Dw Dm Dl Dp cd h₀ wr ys cs ms lv ws7 pv xs ls chs nr ps n0 n1 n2 sp t0 t1 t2 tz tsp o1' o2' o3 kr km kl kw7 kp nw7 m8 _ X T R F8 H8 N8 off7 hd1' hd2' hd3 hIy hx hc hcl lt hmet7 hV7 hw7 q7 offp hp hpb hpl hnr hnr65 ?_
  intro h9 tk9 m9 pv9 ps9 kp9 F9 H9 N9 hp9 hpb9 hpl9
  have hpw : @Ne Nat Dw Dp := off1_mem offp _ (.tail _ (.tail _ (.head _)))
  dsimp only
  with_reducible refine law_seg (i := 19) (j := 20) (by decide) ?_
  refine @seg_9 w A ⟨h9, s.gens, s.drawn, tk9, s.os⟩ mg mb p loose L f D Dr Dc Dw Dm Dl Dp cd h₀ wr ys cs ms lv ws7 pv9 xs ls chs nr ps9 n0 n1 n2 sp t0 t1 t2 tz tsp o1' o2' o3 kr km kl kw7 kp9 nw7 m9 _ X T R F9 H9 N9 off7 hd1' hd2' hd3 hIy hx hc hcl lt hmet7 hV7 hw7 q7 hp9 hpb9 hpl9 hpw ?_
  intro h10 tk10 m10 ws10 kw10 nw10 F10 H10 N10 off10 hmet10 hV10 hw10 hw10'
  have q10 : ws10.length ≤ 6 := jb10 hw5 hw6' hw7' hw10'
  dsimp only
  with_reducible refine law_seg (i := 20) (j := 21) (by decide) ?_
  refine @seg_10 w A ⟨h10, s.gens, s.drawn, tk10, s.os⟩ mg mb p loose L f D Dr Dc Dw Dm Dl Dp cd h₀ wr ys cs ms lv ws10 pv9 xs ls chs nr ps9 n0 n1 n2 sp t0 t1 t2 tz tsp o1' o2' o3 kr km kl kw10 kp9 nw10 m10 _ X T R F10 H10 N10 off10 hd1' hd2' hd3 hIy hx hc hcl lt hmet10 hV10 hw10 q10 hp9 hpb9 hpl9 hpw hls hl0 ?_ (Nat.le_trans hl6 (by decide))
  intro h11 tk11 m11 Dl' Dm' ms' lv' ls' kl' km' F11 H11 N11 hmet11 hls11 hll11
  have N11' := nwS N11 fun N => nwS N fun N => nwS N fun N => nwS (nwT (nwT N)) fun N => nwS (nwT N) fun N => nwT N
  have off11 : OwnOff nw10 [L + 1 + 1 + 1] := fun q hq b hb => off10 q hq b (.tail _ hb)
  dsimp only
  with_reducible refine law_seg (i := 21) (j := 23) (by decide) ?_
  refine @seg_11 w A ⟨h11, s.gens, s.drawn, tk11, s.os⟩ mg mb p loose L f Dr Dw Dm' Dl' Dp cd h₀ ys ms' lv' ws10 pv9 xs ls' ps9 sp tz tsp o1' o2' o3 kr km' kl' kw10 kp9 nw10 m11 _ X T R F11 H11 N11' off11 hd1' hd2' hd3 hIy hx hmet11 hV10 hw10 (Nat.le_trans q10 (by decide)) hp9 hpb9 hpl9 hls11 hll11 hs0 hs1 ?_
  intro h12 tk12 m12 Da Du av uv ka ku F12 H12 N12 hav huv
  dsimp only
  with_reducible refine law_seg (i := 23) (j := 24) (by decide) ?_
  refine @seg_12 w A ⟨h12, s.gens, s.drawn, tk12, s.os⟩ mg mb p loose L f Dr Dw Dm' Dl' Dp cd h₀ ys ms' lv' ws10 pv9 xs ls' ps9 sp tz tsp o1' o2' o3 kr km' kl' kw10 kp9 Du Da uv av ku ka nw10 m12 _ X T R F12 H12 N12 off11 hd1' hd2' hd3 hIy hx hmet11 hV10 hw10 (Nat.le_trans q10 (by decide)) hp9 hpb9 hpl9 hls11 hll11 hs0 hs1 hav huv ?_
  intro h13 tk13 m13 o3' vway F13 H13 N13 hd3'
  dsimp only
  with_reducible refine law_seg (i := 24) (j := 26) (by decide) ?_
  refine @seg_13 w A ⟨h13, s.gens, s.drawn, tk13, s.os⟩ mg mb p loose L f Dr Dw Dm' Dl' Dp cd h₀ ys ms' lv' ws10 pv9 xs ls' ps9 sp tz tsp o1' o2' o3' kr km' kl' kw10 kp9 nw10 m13 _ vway X T R F13 H13 N13 off11 hd1' hd2' hd3' hIy hx hmet11 hV10 hw10 (Nat.le_trans q10 (by decide)) hp9 hpb9 hpl9 hls11 hll11 hs0 hs1 ?_
  intro h14 tk14 m14 F14
  exact h _ _ _ F14
end G3
end G2
end G1
end Mine
theorem Mine.mono_F {α : Type} {M : Model} {A : Around} {t : Sem α} {Q : α → Shared → Prop} {E : Value → Shared → Prop} {s : Shared} (h : wpAny M A t Q (fun _ _ => False) s) : wpAny M A t Q E s := wpAny_mono h (fun _ _ z => z) fun _ _ z => z.elim
local macro_rules | `(tactic| k_qdec) => `(tactic| decide +kernel)
theorem PySem.Challenge.cw_nc0018_01_holds : PySem.Challenge.rw_nc0018_01.Holds := by
  refine Mine.hd ?_
  k_go0
  rename Frag.In _ _ => KX9
  rename Top _ _ _ _ _ _ => T9
  rename Fr _ _ _ _ => F9
  rename News _ _ _ _ => N9
  rename Heap.IsList _ _ _ => hL9
  rename IntsAre _ _ => hI9
  rename (¬ (_ < _)) => hc9
  refine Mine.mono_F ?_
  show wpAny _ _ (execs (Mine.lawBody.drop 0) (Mine.lawEnv _ _ _)) _ _ _
  have hlen := hI9.length
  refine Mine.law_body KX9 (topRead_of T9) ⟨?r1, ?r2, rfl⟩ F9 N9 ?c1 ?c2 ?c3 hL9 hI9 ?len (fun h' tk m' F' => ?_)
  case r1 => show 1 + claimMargin + 1 + 20 < recursionLimit; decide
  case r2 => show 4 + 3 + 8 * 20 < cLine; decide
  case c1 => assumption
  case c2 => assumption
  case c3 => assumption
  case len => omega
  dsimp only
  k_steps
