import PyProof.Rows.All
import Wide.All
import OpenK.AllK
import Wide.FinOn
import PyProof.StrReplace2
import PyProof.NeKinds
import Lean
import PySem.Challenge.RW_pg0177_01
set_option Elab.async false
local macro_rules | `(tactic| walk_at $s:str) => `(tactic| k_extra $s)
section
open PySem PySem.W PyProof.Rows
set_option Elab.async false
namespace Mine
/-- the text without its names' rows and without the defs that bear defaults -/
noncomputable def view : Program := { PySem.Challenge.pw_pg0177_01 with main := { PySem.Challenge.pw_pg0177_01.main with body := [1, 8, 10, 11, 12, 13, 14, 15, 16, 17].filterMap fun i => PySem.Challenge.pw_pg0177_01.main.body[i]? } }
noncomputable abbrev loose : List Str := [Str.ofString "insort_right", Str.ofString "bisect_right", Str.ofString "insort_left", Str.ofString "bisect_left"]
noncomputable def topFast (p : Program) (w : World) (N : Nat) (s₀ : Shared) : Option Shared :=
  match s₀.heap.isNs mainGlobals && s₀.gens.size == 0 with
  | true => (PySem.W.Fast.tw14082659384304107361 PySem.W.Fast.tw14364793385576792824 p w s₀.heap.objs.size (s₀.heap.nsMap mainGlobals "__annotations__") N s₀ (topStub p)).bind fun s₁ => match staticsOk (importedModules p.main.body) s₀.heap s₁.heap && namesBound p s₁.heap && gensDone s₁ && laidKept s₀.heap s₁.heap with
      | true => some s₁
      | false => none
  | false => none
theorem topFast_eq (p : Program) (w : World) (N : Nat) (s : Shared) : topFrom treeTable p w N s = topFast p w N s := by
  unfold topFrom topFast
  rw [PySem.W.Fast.te14082659384304107361, PySem.W.Fast.te14364793385576792824]
  rfl
theorem left_boot {p q : Program} {loose : List Str} {Xt : Shared → Bool} {α : Type} {Yf : Shared → α} {Ya : World → α} {N : Nat} {g0 : Bool} (e : opening p = plainProg p.main.scope.names) (hN : Nat.ble 600 N = true) (f : ∀ s, fenceModules? p s = some s)
    (run : ∀ w : World, (fun os => (topFast p w N ⟨boot_heap w.params, Array.mk [], boot_drawn, boot_toks, os⟩).map (fun s => (PySem.W.Fast.tw4187177175401517315 q loose (importedModules p.main.body) Xt g0 s, Yf s))) = fun _ => some (openGood q loose, Ya w)) : LeftO p q loose Xt Yf Ya N g0 := fun w => by
  obtain ⟨⟨h, gs, d, k, os⟩, e1, e2⟩ := Option.map_eq_some_iff.mp (boot_open e hN f w)
  obtain ⟨rfl, rfl, rfl, rfl⟩ : h = boot_heap w.params ∧ gs = Array.mk [] ∧ d = boot_drawn ∧ k = boot_toks := by simpa using e2
  unfold openEnds
  rw [e1]
  show (topFrom treeTable p w N _).map _ = _
  rw [topFast_eq, PySem.W.Fast.te4187177175401517315]
  exact congrFun (run w) os
theorem head_of {d : DefRec} {kwd : List (Str × PySem.Expr)} (H : Hook)
    (hl : LeftO PySem.Challenge.rw_pg0177_01.row.prog view loose (fun s => xlAt view [] s && recOk (RowW.records PySem.Challenge.rw_pg0177_01.row.toRowW) s) (Hook.obs H) (Hook.val H) 1718)
    (hdef : defOf view PySem.Challenge.rw_pg0177_01.row.name = some (d, kwd)) (hp : PySem.Challenge.rw_pg0177_01.row.prog.theDef PySem.Challenge.rw_pg0177_01.row.name = some (d.params, d.body, d.scope))
    (hk : kwWritten? d.params.kwonlyargs d.params.kw_defaults = some kwd) (said : PySem.Challenge.rw_pg0177_01.row.wellSaid = true) (hw : PySem.Challenge.rw_pg0177_01.row.toRowW.promised)
    (hc : WalkO view loose (XL view []) (Hook.says H) PySem.Challenge.rw_pg0177_01.row.toRowW d kwd fun f vs => PySem.call f vs) : PySem.Challenge.rw_pg0177_01.row.Holds :=
  holds_open (q := view) (loose := loose) (Xt := fun s => xlAt view [] s && recOk (RowW.records PySem.Challenge.rw_pg0177_01.row.toRowW) s) (XP := XL view []) (Yf := Hook.obs H) (Ya := Hook.val H) (YP := Hook.says H) (N := 1718) hl (Hook.of H) (Hook.keeps H)
    (fun s e => xl_of s (Bool.and_eq_true_iff.mp e).1) XL.keeps hdef hp hk (fun s e => recFacts_of (Bool.and_eq_true_iff.mp e).2) (by rfl) said (by decide +kernel) ⟨rfl, rfl, rfl, rfl, rfl, by decide +kernel⟩ hw hc
local macro_rules | `(tactic| o_head $H) => `(tactic| (refine head_of $H ?hl (by rfl) (by rfl) (by rfl) (by assumption) ?hw ?hc; (case hl => (refine left_boot (by rfl) (by rfl) (fun s => by rfl) ?_; intro w; kernel_rfl))))
theorem law_said (l : OpenLaw) (h : PySem.W.Fast.tw9446332074065402090 l = true) : l.wellSaid = true := by rw [PySem.W.Fast.te9446332074065402090]; exact h
theorem row_said : PySem.Challenge.rw_pg0177_01.wellSaid = true := law_said _ (by kernel_rfl)
local macro_rules | `(tactic| o_law) => `(tactic| refine holds_law row_said fun said => ?_)
set_option maxRecDepth 100000 in
set_option maxHeartbeats 8000000 in
open_top hd for PySem.Challenge.rw_pg0177_01
end Mine
end
section
open PySem PySem.W PyProof.Rows PySem.Spec PySem.Calls
set_option Elab.async false
namespace Mine
/-- a tuple's object, a list's object -/
noncomputable abbrev tupO (vs : List Value) (n : Nat) : Obj := { cls := .type "tuple", data := .seq vs.toArray n }
noncomputable abbrev lstO (vs : List Value) (n : Nat) : Obj := { cls := .type "list", data := .seq vs.toArray n }
theorem room0 {a b c : Nat} (h : a + b < c) : a < c := Nat.lt_of_le_of_lt (Nat.le_add_right a b) h
theorem room2 {a b c d e : Nat} (h : a + b < e) (k : c + d ≤ b) : a + c + d < e := Nat.lt_of_le_of_lt (by rw [Nat.add_assoc]; exact Nat.add_le_add_left k a) h
/-- the place around a walk, its room as letters -/
noncomputable abbrev arnd (dp un : Nat) (fr : List Env) (gd : Option (List Code)) : Around := { handled := none, depth := dp, frames := some fr, guards := gd, units := un }
/-- the heap h grown to h': all but the objects of S stand as they stood -/
structure But (S : List Addr) (h h' : Heap) : Prop where
  size : h.objs.size ≤ h'.objs.size
  get : ∀ b o, b ∉ S → h.get? b = some o → h'.get? b = some o
theorem But.rfl {S : List Addr} {h : Heap} : But S h h := ⟨Nat.le_refl _, fun _ _ _ e => e⟩
theorem But.trans {S : List Addr} {h h' h'' : Heap} (x : But S h h') (y : But S h' h'') : But S h h'' := ⟨Nat.le_trans x.size y.size, fun b o n e => y.get b o n (x.get b o n e)⟩
theorem But.mono {S S' : List Addr} {h h' : Heap} (x : But S h h') (hs : ∀ a ∈ S, a ∈ S') : But S' h h' := ⟨x.size, fun b o n e => x.get b o (fun q => n (hs b q)) e⟩
theorem But.keeps {h h' : Heap} (x : But [] h h') : h.StaysIn h' := fun b o e => x.get b o (by simp) e

section
variable {g h h' : Heap} {L : Addr} {m : Str → Option Value} {news : List (Addr × Obj)} {S : List Addr}
theorem Fr.but (F : Fr g L h m) (B : But S h h') (hS : ∀ a ∈ S, a ≠ L ∧ g.get? a = none) : Fr g L h' m := by
  obtain ⟨o, es, ep, ho, r⟩ := F.ns
  refine ⟨⟨o, es, ep, B.get _ _ (fun q => (hS _ q).1 rfl) ho, r⟩, fun b o e => B.get _ _ (fun q => ?_) (F.keep b o e), F.above⟩
  rw [(hS _ q).2] at e; cases e
theorem News.but (N : News g L h news) (B : But S h h') (hS : ∀ p ∈ news, p.1 ∉ S) : News g L h' news := fun p hp => ⟨B.get _ _ (hS p hp) (N p hp).1, (N p hp).2⟩
theorem Fr.pure (F : Fr g L h m) (B : But [] h h') : Fr g L h' m := Fr.but F B (fun _ q => nomatch q)
theorem News.pure (N : News g L h news) (B : But [] h h') : News g L h' news := News.but N B (fun _ _ q => nomatch q)
/-- a new object of a callee's goes onto the caller's ledger -/
theorem News.more (F : Fr g L h m) (N : News g L h' news) {q : Addr} {o : Obj} (hn : h.get? q = none) (ho : h'.get? q = some o) : News g L h' ((q, o) :: news) := by
  intro p hp
  rcases List.mem_cons.mp hp with rfl | hp
  · refine ⟨ho, fun e => ?_, ?_⟩
    · obtain ⟨o, _, _, hL, _⟩ := F.ns
      have e : q = L := e
      rw [e, hL] at hn; cases hn
    · cases c : g.get? q with
      | none => rfl
      | some x => rw [F.keep _ _ c] at hn; cases hn
  · exact N p hp
end

/-- a new address lies behind the ledger's -/
theorem allLt_new {g h : Heap} {L x : Addr} {news : List (Addr × Obj)} (N : News g L h news) (hx : h.objs.size ≤ x) : ∀ p ∈ news, p.1 < x := fun p hp => Nat.lt_of_lt_of_le (Heap.lt_size (N p hp).1) hx
theorem none_of_size {h : Heap} {x : Addr} (hx : h.objs.size ≤ x) : h.get? x = none := by
  cases e : h.get? x with
  | none => rfl
  | some o' => exact absurd (Heap.lt_size e) (Nat.not_lt.mpr hx)
theorem But.less {S S' : List Addr} {h h' : Heap} (B : But S h h') (k : ∀ b ∈ S, b ∉ S' → ∀ o, h.get? b = some o → h'.get? b = some o) : But S' h h' :=
  ⟨B.size, fun b o n e => by
    by_cases q : b ∈ S
    · exact k b q n o e
    · exact B.get b o q e⟩
theorem But.led {S' : List Addr} {s h : Heap} {ob : List (Addr × Obj)} {g : Heap} (B : But (ob.map Prod.fst) s h) (hob : ∀ p ∈ ob, s.get? p.1 = some p.2 ∧ g.get? p.1 = none) (k : ∀ p ∈ ob, p.1 ∉ S' → h.get? p.1 = some p.2) : But S' s h :=
  B.less fun b hb hn o e => by
    obtain ⟨p, hp, rfl⟩ := List.mem_map.mp hb
    rw [(hob p hp).1] at e
    cases e
    exact k p hp hn
/-- a ledger made anew behind a call, item by item -/
theorem led_nil {g h' : Heap} {L : Addr} : News g L h' [] := fun _ h => nomatch h
theorem led_cons {g h' : Heap} {L a : Addr} {o : Obj} {l : List (Addr × Obj)} (e : h'.get? a = some o) (hL : a ≠ L) (hg : g.get? a = none) (r : News g L h' l) : News g L h' ((a, o) :: l) := fun p hp => by
  rcases List.mem_cons.mp hp with rfl | hp
  · exact ⟨e, hL, hg⟩
  · exact r p hp
theorem led_chg {g h h' : Heap} {L a : Addr} {o o' : Obj} {l news : List (Addr × Obj)} (N : News g L h news) (hp : (a, o) ∈ news) (e : h'.get? a = some o') (r : News g L h' l) : News g L h' ((a, o') :: l) :=
  led_cons e (N _ hp).2.1 (N _ hp).2.2 r
theorem led_new {g h h' : Heap} {L a : Addr} {o : Obj} {m : Str → Option Value} {l : List (Addr × Obj)} (F : Fr g L h m) (hn : h.get? a = none) (e : h'.get? a = some o) (r : News g L h' l) : News g L h' ((a, o) :: l) := by
  refine led_cons e (fun q => ?_) ?_ r
  · obtain ⟨o, _, _, hL, _⟩ := F.ns
    rw [q, hL] at hn; cases hn
  · cases c : g.get? a with
    | none => rfl
    | some x => rw [F.keep _ _ c] at hn; cases hn
theorem led_keep {g h h' : Heap} {L a : Addr} {o : Obj} {S : List Addr} {l news : List (Addr × Obj)} (N : News g L h news) (hp : (a, o) ∈ news) (B : But S h h') (hS : a ∉ S) (r : News g L h' l) : News g L h' ((a, o) :: l) :=
  led_chg N hp (B.get _ _ hS (N _ hp).1) r
/-- a call of a def of the text's, over any heap: ob are the objects that it may change -/
theorem entered {prog : Program} {w : World} {A : Around} {s : Shared} {K : Frag} {f : Addr} {oc : Value} {od : Option Addr} {osl : Array (Option Value)} {name qual : Str} {params : Arguments} {body : List Stmt} {scope : Scope} {dV kV doc pm cdv ct : Value} {an : Option Addr} {args : Args} {binds : List (Str × Value)} {Q E : Value → Shared → Prop}
    {p : Program} {loose : List Str} {mean : ExcName → Option Value} {mg mb : Str → Option Value} {g : Heap} {ob : List (Addr × Obj)}
    (hroom : A.depth < recursionLimit) (st : g.StaysIn s.heap) (X : K.In g) (T : Top p loose mean mg mb g) (hob : ∀ p ∈ ob, s.heap.get? p.1 = some p.2 ∧ g.get? p.1 = none)
    (ho : K.lookup f = some ⟨oc, od, .func (fnOf name qual params body scope dV kV doc pm an cdv ct), osl⟩) (hcd : codeIn K cdv qual = true)
    (hbind : BindsTo s (fnOf name qual params body scope dV kV doc pm an cdv ct) args binds) (hloc : ∀ x ∈ binds, scope.names.lookup x.1 = some .local)
    (h : ∀ g' L h₁, g'.objs.size = s.heap.objs.size → L = s.heap.objs.size → (∀ b o, b ∉ ob.map Prod.fst → s.heap.get? b = some o → g'.get? b = some o) → (∀ b o, g'.get? b = some o → s.heap.get? b = some o) →
      K.In g' → Top p loose mean mg mb g' → Fr g' L h₁ (fun y => binds.reverse.lookup y) → News g' L h₁ ob →
      wpAny (model prog w) (A.deeper (envOf qual scope L f cdv)) (execs body (envOf qual scope L f cdv))
        (fun fl s' => Q (match fl with | .ret v => v | _ => .none) s')
        (fun e s' => wpAny (model prog w) (A.deeper (envOf qual scope L f cdv)) (leaving (envOf qual scope L f cdv) e) (fun _ s'' => E e s'') (fun e' s'' => E e' s'') s')
        { s with heap := h₁, toks := s.toks + binds.length })
    (hco : scope.isCoroutine = false) (hgen : scope.isGenerator = false) (hk : scope.kind = .function) (hcell : ∀ x ∈ scope.names, x.2 ≠ .cell) :
    wpAny (model prog w) A (call (.ref f) args.pos args.kw) Q E s := by
  refine wpAny_call ?_
  refine codeAny_call_def (fd := fnOf name qual params body scope dV kV doc pm an cdv ct) (body := body) (binds := binds) hroom (st _ _ (X _ _ ho)) rfl (T.nolimit.keeps st) (codeRec_of (X.keeps st) hcd) rfl hbind hcell hloc (fun h₁ hns hk₁ => ?_) hco hgen hk
  have off : ∀ b o, g.get? b = some o → b ∉ ob.map Prod.fst := fun b o e q => by
    obtain ⟨p, hp, rfl⟩ := List.mem_map.mp q
    rw [(hob p hp).2] at e; cases e
  have sg : g.StaysIn (hideAll s.heap (ob.map Prod.fst)) := fun b o e => hideAll_get _ (st b o e) (off b o e)
  exact h (hideAll s.heap (ob.map Prod.fst)) s.heap.objs.size h₁ (hideAll_size _ _) rfl (fun b o n e => hideAll_get _ e n) (fun b o e => of_hideAll _ e) (X.keeps sg) (T.keeps sg)
    ⟨hns, fun b o e => hk₁ b o (of_hideAll _ e), Nat.le_of_eq (hideAll_size _ _)⟩
    (fun p hp => ⟨hk₁ _ _ (hob p hp).1, Nat.ne_of_lt (Heap.lt_size (hob p hp).1), hideAll_none _ (List.mem_map_of_mem hp)⟩)
/-- a call of a def of the text's, over any heap: ob are the objects that it may change -/
theorem enteredCode {prog : Program} {w : World} {A : Around} {s : Shared} {K : Frag} {f : Addr} {oc : Value} {od : Option Addr} {osl : Array (Option Value)} {name qual : Str} {params : Arguments} {body : List Stmt} {scope : Scope} {dV kV doc pm cdv ct : Value} {an : Option Addr} {args : Args} {binds : List (Str × Value)} {Q E : Value → Shared → Prop}
    {p : Program} {loose : List Str} {mean : ExcName → Option Value} {mg mb : Str → Option Value} {g : Heap} {ob : List (Addr × Obj)}
    (hroom : A.depth < recursionLimit) (st : g.StaysIn s.heap) (X : K.In g) (T : Top p loose mean mg mb g) (hob : ∀ p ∈ ob, s.heap.get? p.1 = some p.2 ∧ g.get? p.1 = none)
    (ho : K.lookup f = some ⟨oc, od, .func (fnOf name qual params body scope dV kV doc pm an cdv ct), osl⟩) (hcd : codeIn K cdv qual = true)
    (hbind : BindsTo s (fnOf name qual params body scope dV kV doc pm an cdv ct) args binds) (hloc : ∀ x ∈ binds, scope.names.lookup x.1 = some .local)
    (h : ∀ g' L h₁, g'.objs.size = s.heap.objs.size → L = s.heap.objs.size → (∀ b o, b ∉ ob.map Prod.fst → s.heap.get? b = some o → g'.get? b = some o) → (∀ b o, g'.get? b = some o → s.heap.get? b = some o) →
      K.In g' → Top p loose mean mg mb g' → Fr g' L h₁ (fun y => binds.reverse.lookup y) → News g' L h₁ ob →
      wpAny (model prog w) (A.deeper (envOf qual scope L f cdv)) (execs body (envOf qual scope L f cdv))
        (fun fl s' => Q (match fl with | .ret v => v | _ => .none) s')
        (fun e s' => wpAny (model prog w) (A.deeper (envOf qual scope L f cdv)) (leaving (envOf qual scope L f cdv) e) (fun _ s'' => E e s'') (fun e' s'' => E e' s'') s')
        { s with heap := h₁, toks := s.toks + binds.length })
    (hco : scope.isCoroutine = false) (hgen : scope.isGenerator = false) (hk : scope.kind = .function) (hcell : ∀ x ∈ scope.names, x.2 ≠ .cell) :
    codeAny (model prog w) A (.call (.ref f) args) (fun r s' => match r with | .ok (.ret v) => Q v s' | .ok _ => False | .error e => E e s') s := by
  refine codeAny_call_def (fd := fnOf name qual params body scope dV kV doc pm an cdv ct) (body := body) (binds := binds) hroom (st _ _ (X _ _ ho)) rfl (T.nolimit.keeps st) (codeRec_of (X.keeps st) hcd) rfl hbind hcell hloc (fun h₁ hns hk₁ => ?_) hco hgen hk
  have off : ∀ b o, g.get? b = some o → b ∉ ob.map Prod.fst := fun b o e q => by
    obtain ⟨p, hp, rfl⟩ := List.mem_map.mp q
    rw [(hob p hp).2] at e; cases e
  have sg : g.StaysIn (hideAll s.heap (ob.map Prod.fst)) := fun b o e => hideAll_get _ (st b o e) (off b o e)
  exact h (hideAll s.heap (ob.map Prod.fst)) s.heap.objs.size h₁ (hideAll_size _ _) rfl (fun b o n e => hideAll_get _ e n) (fun b o e => of_hideAll _ e) (X.keeps sg) (T.keeps sg)
    ⟨hns, fun b o e => hk₁ b o (of_hideAll _ e), Nat.le_of_eq (hideAll_size _ _)⟩
    (fun p hp => ⟨hk₁ _ _ (hob p hp).1, Nat.ne_of_lt (Heap.lt_size (hob p hp).1), hideAll_none _ (List.mem_map_of_mem hp)⟩)
/-- the same of a def whose names are cells -/
theorem enteredC {prog : Program} {w : World} {A : Around} {s : Shared} {K : Frag} {f : Addr} {oc : Value} {od : Option Addr} {osl : Array (Option Value)} {name qual : Str} {params : Arguments} {body : List Stmt} {scope : Scope} {dV kV doc pm cdv ct : Value} {an : Option Addr} {args : Args} {binds : List (Str × Value)} {Q E : Value → Shared → Prop}
    {p : Program} {loose : List Str} {mean : ExcName → Option Value} {mg mb : Str → Option Value} {g : Heap} {ob : List (Addr × Obj)}
    (hroom : A.depth < recursionLimit) (st : g.StaysIn s.heap) (X : K.In g) (T : Top p loose mean mg mb g) (hob : ∀ p ∈ ob, s.heap.get? p.1 = some p.2 ∧ g.get? p.1 = none)
    (ho : K.lookup f = some ⟨oc, od, .func (fnOf name qual params body scope dV kV doc pm an cdv ct), osl⟩) (hcd : codeIn K cdv qual = true)
    (hbind : BindsTo s (fnOf name qual params body scope dV kV doc pm an cdv ct) args binds)
    (hkind : (binds.all fun y => scope.names.lookup y.1 == some .local || scope.names.lookup y.1 == some .cell) = true) (hnd : ((cellsFrom 0 scope.names []).map (·.1)).Nodup)
    (h : ∀ g' L h₁ tk cells, g'.objs.size = s.heap.objs.size → L = s.heap.objs.size → (∀ b o, b ∉ ob.map Prod.fst → s.heap.get? b = some o → g'.get? b = some o) → (∀ b o, g'.get? b = some o → s.heap.get? b = some o) →
      K.In g' → Top p loose mean mg mb g' → Fr g' L h₁ (bindL (envOfC qual scope L f cdv).kindOf binds fun _ => none) → News g' L h₁ (cells ++ ob) → CellsAre (bindC (envOfC qual scope L f cdv).kindOf binds fun _ => none) (cellsFrom (L + 1) scope.names []) cells → (∀ p ∈ ob, p.1 < L) →
      wpAny (model prog w) (A.deeper (envOfC qual scope L f cdv)) (execs body (envOfC qual scope L f cdv))
        (fun fl s' => Q (match fl with | .ret v => v | _ => .none) s')
        (fun e s' => wpAny (model prog w) (A.deeper (envOfC qual scope L f cdv)) (leaving (envOfC qual scope L f cdv) e) (fun _ s'' => E e s'') (fun e' s'' => E e' s'') s')
        { s with heap := h₁, toks := tk })
    (hco : scope.isCoroutine = false) (hgen : scope.isGenerator = false) (hk : scope.kind = .function) :
    wpAny (model prog w) A (call (.ref f) args.pos args.kw) Q E s := by
  refine wpAny_call ?_
  refine codeAny_call_function hroom (st _ _ (X _ _ ho)) rfl hco hgen rfl (codeRec_of (X.keeps st) hcd) (hbind _ _ _ _ ?_)
  refine wpAny_newFunctionEnv_cells hk (kindsX hkind _) fun env' he s' x => ?_
  subst he
  refine ⟨(T.nolimit.keeps st).keeps x.toInCall.keep, codeAny_func ?_⟩
  obtain ⟨h₁, tk, rfl, _⟩ := x.done
  have hk₁ := x.toInCall.keep
  obtain ⟨cells, NC, Y⟩ := Cl.news (h₀ := s.heap) (Nat.le_refl _) fun n c hm => ⟨x.cell n c (lookup_of_mem_nodup (cellsFrom_names scope.names 0 (s.heap.objs.size + 1) [] [] rfl ▸ hnd) hm), x.above n c hm⟩
  have off : ∀ b o, g.get? b = some o → b ∉ ob.map Prod.fst := fun b o e q => by
    obtain ⟨p, hp, rfl⟩ := List.mem_map.mp q
    rw [(hob p hp).2] at e; cases e
  have sg : g.StaysIn (hideAll s.heap (ob.map Prod.fst)) := fun b o e => hideAll_get _ (st b o e) (off b o e)
  refine h (hideAll s.heap (ob.map Prod.fst)) s.heap.objs.size h₁ tk cells (hideAll_size _ _) rfl (fun b o n e => hideAll_get _ e n) (fun b o e => of_hideAll _ e) (X.keeps sg) (T.keeps sg)
    ⟨x.toInCall.ns, fun b o e => hk₁ b o (of_hideAll _ e), Nat.le_of_eq (hideAll_size _ _)⟩ (fun p hp => ?_) Y (fun p hp => Heap.lt_size (hob p hp).1)
  rcases List.mem_append.mp hp with hp | hp
  · refine ⟨(NC p hp).1, (NC p hp).2.1, ?_⟩
    cases q : (hideAll s.heap (ob.map Prod.fst)).get? p.1 with
    | none => rfl
    | some o => have := of_hideAll _ q; rw [(NC p hp).2.2] at this; cases this
  · exact ⟨hk₁ _ _ (hob p hp).1, Nat.ne_of_lt (Heap.lt_size (hob p hp).1), hideAll_none _ (List.mem_map_of_mem hp)⟩
/-- a call of a closure, over any heap -/
theorem enteredX {prog : Program} {w : World} {A : Around} {s : Shared} {K : Frag} {f : Addr} {fo : Obj} {cl : List (Str × Addr)} {name qual : Str} {params : Arguments} {body : List Stmt} {scope : Scope} {dV kV doc pm cdv ct : Value} {an : Option Addr} {args : Args} {binds : List (Str × Value)} {Q E : Value → Shared → Prop}
    {p : Program} {loose : List Str} {mean : ExcName → Option Value} {mg mb : Str → Option Value} {g : Heap} {ob : List (Addr × Obj)}
    (hroom : A.depth < recursionLimit) (st : g.StaysIn s.heap) (X : K.In g) (T : Top p loose mean mg mb g) (hob : ∀ p ∈ ob, s.heap.get? p.1 = some p.2 ∧ g.get? p.1 = none)
    (ho : s.heap.get? f = some fo) (hfd : fo.data = .func (fnX name qual params body scope cl dV kV doc pm an cdv ct)) (hcd : s.heap.CodeRec cdv qual)
    (hbind : BindsTo s (fnX name qual params body scope cl dV kV doc pm an cdv ct) args binds) (hloc : ∀ x ∈ binds, scope.names.lookup x.1 = some .local)
    (h : ∀ g' L h₁, g'.objs.size = s.heap.objs.size → L = s.heap.objs.size → (∀ b o, b ∉ ob.map Prod.fst → s.heap.get? b = some o → g'.get? b = some o) → (∀ b o, g'.get? b = some o → s.heap.get? b = some o) →
      K.In g' → Top p loose mean mg mb g' → Fr g' L h₁ (fun y => binds.reverse.lookup y) → News g' L h₁ ob →
      wpAny (model prog w) (A.deeper (envX qual scope L f cdv cl)) (execs body (envX qual scope L f cdv cl))
        (fun fl s' => Q (match fl with | .ret v => v | _ => .none) s')
        (fun e s' => wpAny (model prog w) (A.deeper (envX qual scope L f cdv cl)) (leaving (envX qual scope L f cdv cl) e) (fun _ s'' => E e s'') (fun e' s'' => E e' s'') s')
        { s with heap := h₁, toks := s.toks + binds.length })
    (hco : scope.isCoroutine = false) (hgen : scope.isGenerator = false) (hk : scope.kind = .function) (hcell : ∀ x ∈ scope.names, x.2 ≠ .cell) :
    wpAny (model prog w) A (call (.ref f) args.pos args.kw) Q E s := by
  refine wpAny_call ?_
  refine codeAny_call_def (fd := fnX name qual params body scope cl dV kV doc pm an cdv ct) (body := body) (binds := binds) hroom ho hfd (T.nolimit.keeps st) hcd rfl hbind hcell hloc (fun h₁ hns hk₁ => ?_) hco hgen hk
  have off : ∀ b o, g.get? b = some o → b ∉ ob.map Prod.fst := fun b o e q => by
    obtain ⟨p, hp, rfl⟩ := List.mem_map.mp q
    rw [(hob p hp).2] at e; cases e
  have sg : g.StaysIn (hideAll s.heap (ob.map Prod.fst)) := fun b o e => hideAll_get _ (st b o e) (off b o e)
  exact h (hideAll s.heap (ob.map Prod.fst)) s.heap.objs.size h₁ (hideAll_size _ _) rfl (fun b o n e => hideAll_get _ e n) (fun b o e => of_hideAll _ e) (X.keeps sg) (T.keeps sg)
    ⟨hns, fun b o e => hk₁ b o (of_hideAll _ e), Nat.le_of_eq (hideAll_size _ _)⟩
    (fun p hp => ⟨hk₁ _ _ (hob p hp).1, Nat.ne_of_lt (Heap.lt_size (hob p hp).1), hideAll_none _ (List.mem_map_of_mem hp)⟩)
/-- what the callee left, as its caller sees it -/
theorem But.ofFr {s g' h : Heap} {L : Addr} {m : Str → Option Value} {S : List Addr} (F : Fr g' L h m) (hz : g'.objs.size = s.objs.size) (hS : ∀ b o, b ∉ S → s.get? b = some o → g'.get? b = some o) : But S s h :=
  ⟨by
    obtain ⟨o, _, _, ho, _⟩ := F.ns
    have := Heap.lt_size ho
    rw [← hz]
    exact Nat.le_of_lt (Nat.lt_of_le_of_lt F.above this), fun b o n q => F.keep b o (hS b o n q)⟩
/-- an object that the callee made is none of the caller's -/
theorem notOld {s g' : Heap} {q : Addr} {S : List Addr} (hS : ∀ b o, b ∉ S → s.get? b = some o → g'.get? b = some o) (hn : g'.get? q = none) (hq : q ∉ S) : s.get? q = none := by
  cases c : s.get? q with
  | none => rfl
  | some o => rw [hS q o hq c] at hn; cases hn
theorem fill : hd.heap_1 = hd.heap_1 ∧ PySem.Challenge.rw_pg0177_01 = PySem.Challenge.rw_pg0177_01 := by k_fill; exact ⟨rfl, rfl⟩
/-- a colour's figure as the text reckons it -/
noncomputable def minI (a b : Int) : Int := if b < a then b else a
noncomputable def maxI (a b : Int) : Int := if b > a then b else a
noncomputable def wayP (hue corner : Int) : Int := (3 * hue - corner).fmod 192
noncomputable def fallP (hue corner : Int) : Int := minI (maxI (minI (wayP hue corner) (192 - wayP hue corner) - 32) 0) 32
noncomputable def partP (hue light share corner : Int) : Int := 128 * light + share * minI light (16 - light) * (16 - fallP hue corner)
section
variable {M : Model} {A : Around} {s : Shared} {E : Value → Shared → Prop} {Q : Unit → Shared → Prop} {name : Str} {env : Env}
theorem tok_int {v : Int} {r : Shared} (h : ∀ t : Tok, wpAny M A (storeName env name (.int v t)) Q E s) : wpAny M A (storeName env name (.int v r.toks)) Q E s := h _
theorem tok_int2 {v : Int} {c : Prop} {i : Decidable c} {r r2 : Tok} (h : ∀ t : Tok, wpAny M A (storeName env name (.int v t)) Q E s) : wpAny M A (storeName env name (.int v (@ite Tok c i r r2))) Q E s := h _
theorem tok_str {v : Str} {r : Shared} (h : ∀ t : Tok, wpAny M A (storeName env name (.str v t)) Q E s) : wpAny M A (storeName env name (.str v r.toks)) Q E s := h _
theorem tok_float {v : UInt64} {r : Shared} (h : ∀ t : Tok, wpAny M A (storeName env name (.float v t)) Q E s) : wpAny M A (storeName env name (.float v r.toks)) Q E s := h _
theorem tup_tok2 {Q : Value → Shared → Prop} {a b : Int} {T U : Tok} (h : ∀ t u : Tok, wpAny M A (newTuple [.int a t, .int b u]) Q E s) : wpAny M A (newTuple [.int a T, .int b U]) Q E s := h _ _
theorem tup_tok3 {Q : Value → Shared → Prop} {a b c : Int} {T U V : Tok} (h : ∀ t u v : Tok, wpAny M A (newTuple [.int a t, .int b u, .int c v]) Q E s) : wpAny M A (newTuple [.int a T, .int b U, .int c V]) Q E s := h _ _ _
theorem lst_tok1 {Q : Value → Shared → Prop} {a : Str} {T : Tok} (h : ∀ t : Tok, wpAny M A (newList [.str a t]) Q E s) : wpAny M A (newList [.str a T]) Q E s := h _
theorem lst_tok3 {Q : Value → Shared → Prop} {a b c : Str} {T U V : Tok} (h : ∀ t u v : Tok, wpAny M A (newList [.str a t, .str b u, .str c v]) Q E s) : wpAny M A (newList [.str a T, .str b U, .str c V]) Q E s := h _ _ _
theorem lst_tok5 {Q : Value → Shared → Prop} {a b c d e : Int} {T U V W X : Tok} (h : ∀ t u v w x : Tok, wpAny M A (newList [.int a t, .int b u, .int c v, .int d w, .int e x]) Q E s) : wpAny M A (newList [.int a T, .int b U, .int c V, .int d W, .int e X]) Q E s := h _ _ _ _ _
end
end Mine
end
section
open PySem PySem.Float64
set_option exponentiation.threshold 4000
namespace Mine
theorem V_infMag : V (infMag - 1) = (2 ^ 53 - 1) * 2 ^ 2045 := by
  have e : infMag - 1 = 2045 * 2 ^ 52 + (2 ^ 53 - 1) := by unfold infMag; omega
  rw [e]
  exact V_at (by omega) (by omega)
theorem V_inj {t t' : Nat} (h : V t = V t') : t = t' := by
  rcases Nat.lt_trichotomy t t' with c | c | c
  · have := V_lt c; omega
  · exact c
  · have := V_lt c; omega
theorem right_exact {r : UInt64} {neg : Bool} {W D t : Nat} (h : Right r neg W D) (hD : 0 < D) (ht : t < infMag) (hW : W = D * V t) : r = pack neg t := by
  obtain ⟨t', rfl, hle, hov, hn⟩ := h
  have hlt : t' < infMag := by
    rcases Nat.lt_or_eq_of_le hle with c | c
    · exact c
    · exfalso
      have h1 := hov.mp c
      have h2 : V t ≤ V (infMag - 1) := V_mono (by omega)
      rw [V_infMag] at h2
      rw [hW] at h1
      have h3 : D * ((2 ^ 54 - 1) * 2 ^ 2045) ≤ D * (2 * V t) := by
        calc _ ≤ _ := h1
          _ = _ := by ac_rfl
      have h4 := Nat.le_of_mul_le_mul_left h3 hD
      have h5 : 2 * V t ≤ 2 * ((2 ^ 53 - 1) * 2 ^ 2045) := Nat.mul_le_mul_left 2 h2
      have h6 : 2 * ((2 ^ 53 - 1) * 2 ^ 2045) < (2 ^ 54 - 1) * 2 ^ 2045 := by
        rw [← Nat.mul_assoc]
        exact Nat.mul_lt_mul_of_pos_right (by decide) (Nat.two_pow_pos _)
      omega
  have h1 := (hn hlt t).1
  rw [hW] at h1
  have h2 : dist (D * V t) (D * V t) = 0 := by unfold dist; omega
  rw [h2] at h1
  have h3 : D * V t = D * V t' := by unfold dist at h1; omega
  have := V_inj (Nat.eq_of_mul_eq_mul_left hD h3)
  rw [this]
/-- the place of n / 2048 among the doubles -/
theorem place_of {n : Nat} (h : n < 2 ^ 40) : ∃ t, t < infMag ∧ V t = n * 2 ^ 1063 := by
  by_cases h0 : n = 0
  · exact ⟨0, by decide, by subst h0; rw [V_zero, Nat.zero_mul]⟩
  · have hl := Nat.log2_self_le h0
    have hu := Nat.lt_log2_self (n := n)
    have hlt : n.log2 < 40 := (Nat.log2_lt h0).mpr h
    have e1 : n * 2 ^ (52 - n.log2) < 2 ^ 53 := by
      have : n * 2 ^ (52 - n.log2) < 2 ^ (n.log2 + 1) * 2 ^ (52 - n.log2) := Nat.mul_lt_mul_of_pos_right hu (Nat.two_pow_pos _)
      rw [← Nat.pow_add] at this
      have e : n.log2 + 1 + (52 - n.log2) = 53 := by omega
      rwa [e] at this
    have e2 : 2 ^ 52 ≤ n * 2 ^ (52 - n.log2) := by
      have : 2 ^ n.log2 * 2 ^ (52 - n.log2) ≤ n * 2 ^ (52 - n.log2) := Nat.mul_le_mul_right _ hl
      rw [← Nat.pow_add] at this
      have e : n.log2 + (52 - n.log2) = 52 := by omega
      rwa [e] at this
    refine ⟨(1011 + n.log2) * 2 ^ 52 + n * 2 ^ (52 - n.log2), ?_, ?_⟩
    · unfold infMag
      have : (1011 + n.log2) * 2 ^ 52 ≤ 1050 * 2 ^ 52 := Nat.mul_le_mul_right _ (by omega)
      omega
    · rw [V_at (Nat.le_of_lt e1) (.inl e2), Nat.mul_assoc, ← Nat.pow_add]
      have e : 52 - n.log2 + (1011 + n.log2) = 1063 := by omega
      rw [e]
/-- the double n / 2048 -/
noncomputable def fq (n : Int) : UInt64 := ofFrac (decide (n < 0)) n.natAbs 2048
theorem fq_right (n : Int) : Right (fq n) (decide (n < 0)) (n.natAbs * 2 ^ 1063) 1 :=
  ofFrac_right (by decide) (by
    have e : (2 : Nat) ^ 1074 = 2 ^ 1063 * 2048 := by rw [show (2048 : Nat) = 2 ^ 11 by decide, ← Nat.pow_add]
    rw [e]; generalize (2 : Nat) ^ 1063 = K; ac_rfl) (by decide)
theorem fq_at {n : Int} (h : n.natAbs < 2 ^ 40) : ∃ t, t < infMag ∧ V t = n.natAbs * 2 ^ 1063 ∧ fq n = pack (decide (n < 0)) t := by
  obtain ⟨t, h1, h2⟩ := place_of h
  exact ⟨t, h1, h2, right_exact (fq_right n) (by decide) h1 (by rw [h2, Nat.one_mul])⟩
/-- any rightly rounded double that is a 2048th's multiple is its fq -/
theorem fq_of {r : UInt64} {n : Int} {W D : Nat} (h : n.natAbs < 2 ^ 40) (hr : Right r (decide (n < 0)) W D) (hD : 0 < D) (hW : W = D * (n.natAbs * 2 ^ 1063)) : r = fq n := by
  obtain ⟨t, h1, h2, h3⟩ := fq_at h
  rw [h3]
  exact right_exact hr hD h1 (by rw [hW, h2])
theorem fq_decode {n : Int} (h : n.natAbs < 2 ^ 40) : ∃ m e, decode (fq n) = .fin (decide (n < 0)) m e ∧ m * 2 ^ (e + 1074).toNat = n.natAbs * 2 ^ 1063 := by
  obtain ⟨t, h1, h2, h3⟩ := fq_at h
  obtain ⟨m, e, hd, hm⟩ := decode_pack (decide (n < 0)) h1
  exact ⟨m, e, h3 ▸ hd, by rw [hm, h2]⟩
theorem fq_val {n : Int} (h : n.natAbs < 2 ^ 40) : val (fq n) = n * ((2 ^ 1063 : Nat) : Int) := by
  obtain ⟨m, e, hd, hm⟩ := fq_decode h
  rw [val_eq hd, hm, sgn_mul]
  congr 1
  unfold sgn
  by_cases c : n < 0
  · simp [c]; omega
  · simp [c]; omega
theorem pos1063 : (0 : Int) < ((2 ^ 1063 : Nat) : Int) := Int.ofNat_lt.mpr (Nat.two_pow_pos _)
theorem fq_cmp {a b : Int} (ha : a.natAbs < 2 ^ 40) (hb : b.natAbs < 2 ^ 40) : cmp (fq a) (fq b) = some (compare a b) := by
  obtain ⟨m, e, hd, _⟩ := fq_decode ha
  obtain ⟨m', e', hd', _⟩ := fq_decode hb
  rw [cmp_right hd hd', fq_val ha, fq_val hb]
  have hK := pos1063
  generalize ((2 ^ 1063 : Nat) : Int) = K at hK
  congr 1
  rcases Int.lt_trichotomy a b with h | h | h
  · rw [Int.compare_eq_lt.mpr h, Int.compare_eq_lt.mpr (Int.mul_lt_mul_of_pos_right h hK)]
  · subst h; simp
  · rw [Int.compare_eq_gt.mpr h, Int.compare_eq_gt.mpr (Int.mul_lt_mul_of_pos_right h hK)]
theorem fq_zero : fq 0 = zero false := by decide +kernel
theorem neg_iff {n : Int} {K : Int} (hK : 0 < K) : decide (n * K < 0) = decide (n < 0) := by
  apply decide_eq_decide.mpr
  constructor
  · intro h
    by_cases h2 : n < 0
    · exact h2
    · have := Int.mul_nonneg (show 0 ≤ n by omega) (Int.le_of_lt hK)
      omega
  · intro h
    exact Int.mul_neg_of_neg_of_pos h hK
theorem up38 {n : Nat} (h : n < 2 ^ 38) : n < 2 ^ 40 := Nat.lt_trans h (by decide)
theorem up36 {n : Nat} (h : n < 2 ^ 36) : n < 2 ^ 38 := Nat.lt_trans h (by decide)
theorem add40 {a b : Int} (ha : a.natAbs < 2 ^ 38) (hb : b.natAbs < 2 ^ 38) : (a + b).natAbs < 2 ^ 40 := Nat.lt_of_le_of_lt (Int.natAbs_add_le a b) (Nat.lt_of_lt_of_le (Nat.add_lt_add ha hb) (by decide))
theorem sub40 {a b : Int} (ha : a.natAbs < 2 ^ 38) (hb : b.natAbs < 2 ^ 38) : (a - b).natAbs < 2 ^ 40 := by
  rw [Int.sub_eq_add_neg]
  exact add40 ha (by rw [Int.natAbs_neg]; exact hb)
theorem pos_abs {b : Int} (h : 0 < b) : 0 < b.natAbs := Int.natAbs_pos.mpr (Int.ne_of_gt h)
theorem shift3 {e z : Int} (h1 : z ≤ e) (h0 : -1074 ≤ z) : (e - z).toNat + (z + 1074).toNat = (e + 1074).toNat := by
  rw [← Int.toNat_add (Int.sub_nonneg_of_le h1) (by omega)]
  congr 1
  omega
theorem dec_neg {b : Int} (h : 0 ≤ b) : decide (b < 0) = false := decide_eq_false (Int.not_lt.mpr h)
theorem mul_ne {c K : Int} (hK : 0 < K) (h0 : c ≠ 0) : c * K ≠ 0 := fun h => (Int.mul_eq_zero.mp h).elim h0 (Int.ne_of_gt hK)
theorem fq_add {a b : Int} (ha : a.natAbs < 2 ^ 38) (hb : b.natAbs < 2 ^ 38) (hs : 0 ≤ a ∨ 0 ≤ b) : add (fq a) (fq b) = fq (a + b) := by
  obtain ⟨m, e, hd, _⟩ := fq_decode (n := a) (up38 ha)
  obtain ⟨m', e', hd', _⟩ := fq_decode (n := b) (up38 hb)
  have A := add_right hd hd'
  rw [fq_val (up38 ha), fq_val (up38 hb), ← Int.add_mul] at A
  by_cases h0 : a + b = 0
  · rw [A.1 (by rw [h0, Int.zero_mul]), h0, fq_zero]
    have : (decide (a < 0) && decide (b < 0)) = false := by
      rcases hs with h | h
      · rw [dec_neg (by assumption : (0 : Int) ≤ a)]; rfl
      · rw [dec_neg (by first | assumption | exact Int.le_of_lt (by assumption) : (0 : Int) ≤ b), Bool.and_false]
    rw [this]
  · have R := A.2 (mul_ne pos1063 h0)
    rw [neg_iff pos1063, Int.natAbs_mul, Int.natAbs_natCast] at R
    exact fq_of (add40 ha hb) R (by decide) (by rw [Nat.one_mul])
theorem fq_sub {a b : Int} (ha : a.natAbs < 2 ^ 38) (hb : b.natAbs < 2 ^ 38) (hs : 0 ≤ a) : sub (fq a) (fq b) = fq (a - b) := by
  obtain ⟨m, e, hd, _⟩ := fq_decode (n := a) (up38 ha)
  obtain ⟨m', e', hd', _⟩ := fq_decode (n := b) (up38 hb)
  have A := sub_right hd hd'
  rw [fq_val (up38 ha), fq_val (up38 hb), ← Int.sub_mul] at A
  by_cases h0 : a - b = 0
  · rw [A.1 (by rw [h0, Int.zero_mul]), h0, fq_zero]
    rw [dec_neg (by assumption : (0 : Int) ≤ a)]; rfl
  · have R := A.2 (mul_ne pos1063 h0)
    rw [neg_iff pos1063, Int.natAbs_mul, Int.natAbs_natCast] at R
    exact fq_of (sub40 ha hb) R (by decide) (by rw [Nat.one_mul])
theorem fq_div {a b c : Int} (ha : a.natAbs < 2 ^ 38) (hb : b.natAbs < 2 ^ 38) (hc : c.natAbs < 2 ^ 38) (hb0 : 0 < b) (h : a * 2048 = c * b) : div (fq a) (fq b) = fq c := by
  obtain ⟨m, e, hd, hm⟩ := fq_decode (n := a) (up38 ha)
  obtain ⟨m', e', hd', hm'⟩ := fq_decode (n := b) (up38 hb)
  have hk : m' ≠ 0 := by
    intro c0
    rw [c0, Nat.zero_mul] at hm'
    have := Nat.mul_pos (show 0 < b.natAbs from by first | exact pos_abs (by assumption) | exact Nat.lt_of_le_of_lt (Nat.zero_le _) (by assumption)) (Nat.two_pow_pos 1063)
    exact absurd hm' (Nat.ne_of_lt this)
  have R := div_right hd hd' hk
  rw [fq_val (up38 ha), fq_val (up38 hb), Int.natAbs_mul, Int.natAbs_mul, Int.natAbs_natCast] at R
  have hneg : (decide (a < 0) != decide (b < 0)) = decide (c < 0) := by
    rw [dec_neg (by first | assumption | exact Int.le_of_lt (by assumption) : (0 : Int) ≤ b), Bool.bne_false]
    apply decide_eq_decide.mpr
    constructor
    · intro h1
      by_cases h2 : c < 0
      · exact h2
      · have := Int.mul_nonneg (show 0 ≤ c by omega) (Int.le_of_lt hb0)
        omega
    · intro h1
      have := Int.mul_neg_of_neg_of_pos h1 hb0
      omega
  rw [hneg] at R
  refine fq_of (up38 hc) R (Nat.mul_pos (pos_abs hb0) (Nat.two_pow_pos _)) ?_
  have h2 : a.natAbs * 2048 = c.natAbs * b.natAbs := by
    have := congrArg Int.natAbs h
    rwa [Int.natAbs_mul, Int.natAbs_mul] at this
  have e : (2 : Nat) ^ 1074 = 2 ^ 1063 * 2048 := by rw [show (2048 : Nat) = 2 ^ 11 by decide, ← Nat.pow_add]
  rw [e]
  generalize (2 : Nat) ^ 1063 = K
  calc a.natAbs * K * (K * 2048) = (a.natAbs * 2048) * K * K := by ac_rfl
    _ = b.natAbs * K * (c.natAbs * K) := by rw [h2]; ac_rfl
/-- an int over an int that gives 2048ths -/
theorem fq_frac {a b c : Int} (hb0 : 0 < b) (hc : c.natAbs < 2 ^ 38) (h : a * 2048 = c * b) : ofFrac (decide (c < 0)) a.natAbs b.natAbs = fq c := by
  refine fq_of (up38 hc) (ofFrac_right (W := a.natAbs * 2 ^ 1074) (D := b.natAbs) (pos_abs hb0) rfl (pos_abs hb0)) (pos_abs hb0) ?_
  have h2 : a.natAbs * 2048 = c.natAbs * b.natAbs := by
    have := congrArg Int.natAbs h
    rwa [Int.natAbs_mul, Int.natAbs_mul] at this
  have e : (2 : Nat) ^ 1074 = 2 ^ 1063 * 2048 := by rw [show (2048 : Nat) = 2 ^ 11 by decide, ← Nat.pow_add]
  rw [e]
  generalize (2 : Nat) ^ 1063 = K
  calc a.natAbs * (K * 2048) = (a.natAbs * 2048) * K := by ac_rfl
    _ = b.natAbs * (c.natAbs * K) := by rw [h2]; ac_rfl
theorem fq_fmod {a b : Int} (ha : a.natAbs < 2 ^ 38) (hb : b.natAbs < 2 ^ 38) (h : a.natAbs < b.natAbs) : fmod (fq a) (fq b) = fq a := by
  obtain ⟨m, e, hd, hm⟩ := fq_decode (n := a) (up38 ha)
  obtain ⟨k, f, hd', hm'⟩ := fq_decode (n := b) (up38 hb)
  have he := decode_ge hd
  have hf := decode_ge hd'
  have hk : k ≠ 0 := by
    intro c0
    rw [c0, Nat.zero_mul] at hm'
    have := Nat.mul_pos (show 0 < b.natAbs from by first | exact pos_abs (by assumption) | exact Nat.lt_of_le_of_lt (Nat.zero_le _) (by assumption)) (Nat.two_pow_pos 1063)
    exact absurd hm' (Nat.ne_of_lt this)
  have hz0 : -1074 ≤ min e f := Int.le_min.mpr ⟨he, hf⟩
  have hlt : m * 2 ^ (e - min e f).toNat < k * 2 ^ (f - min e f).toNat := by
    have e1 : (e - min e f).toNat + (min e f + 1074).toNat = (e + 1074).toNat := shift3 (Int.min_le_left _ _) hz0
    have e2 : (f - min e f).toNat + (min e f + 1074).toNat = (f + 1074).toNat := shift3 (Int.min_le_right _ _) hz0
    have : m * 2 ^ (e - min e f).toNat * 2 ^ (min e f + 1074).toNat < k * 2 ^ (f - min e f).toNat * 2 ^ (min e f + 1074).toNat := by
      rw [Nat.mul_assoc, Nat.mul_assoc, ← Nat.pow_add, ← Nat.pow_add, e1, e2, hm, hm']
      exact Nat.mul_lt_mul_of_pos_right h (Nat.two_pow_pos _)
    exact Nat.lt_of_mul_lt_mul_right this
  have hf' : fmod (fq a) (fq b) = ofBin (decide (a < 0)) (m * 2 ^ (e - min e f).toNat) (min e f) := by
    unfold fmod
    rw [hd, hd']
    have hz : (k == 0) = false := by simpa using hk
    simp only [hz, align, sgn, Bool.false_eq_true, if_false, Int.toNat_natCast]
    rw [Nat.mod_eq_of_lt hlt]
  rw [hf']
  have hs := shift_one (m * 2 ^ (e - min e f).toNat) (min e f) 1074 hz0
  have e1 : (e - min e f).toNat + (min e f + ((1074 : Nat) : Int)).toNat = (e + 1074).toNat := shift3 (Int.min_le_left _ _) hz0
  rw [Nat.mul_assoc m, ← Nat.pow_add, e1, hm] at hs
  exact fq_of (up38 ha) (ofFrac_right (W := a.natAbs * 2 ^ 1063) (D := 1) (shift_pos _ _ _ (by decide)) (by rw [Nat.mul_one]; exact hs) (by decide)) (by decide) (by rw [Nat.one_mul])
theorem fq_isZero {a : Int} (ha : a.natAbs < 2 ^ 38) : isZero (fq a) = decide (a = 0) := by
  obtain ⟨m, e, hd, hm⟩ := fq_decode (n := a) (up38 ha)
  unfold isZero
  rw [hd]
  by_cases c : a = 0
  · rw [decide_eq_true c]
    subst c
    have : m = 0 := by
      rcases Nat.mul_eq_zero.mp (show m * 2 ^ (e + 1074).toNat = 0 by rw [hm]; exact Nat.zero_mul _) with h | h
      · exact h
      · have := Nat.two_pow_pos (e + 1074).toNat; omega
    subst this; rfl
  · rw [decide_eq_false c]
    have : m ≠ 0 := by
      intro h
      rw [h, Nat.zero_mul] at hm
      have := Nat.mul_pos (show 0 < a.natAbs by omega) (Nat.two_pow_pos 1063)
      omega
    cases m with
    | zero => exact absurd rfl this
    | succ n => rfl
theorem fq_lt {a b : Int} (ha : a.natAbs < 2 ^ 38) (hb : b.natAbs < 2 ^ 38) : lt (fq a) (fq b) = decide (a < b) := by
  unfold lt
  rw [fq_cmp (up38 ha) (up38 hb)]
  rcases Int.lt_trichotomy a b with h | h | h
  · rw [Int.compare_eq_lt.mpr h, decide_eq_true h]; rfl
  · subst h; rw [decide_eq_false (by omega)]; simp
  · rw [Int.compare_eq_gt.mpr h, decide_eq_false (by omega)]; rfl
theorem fq_mod {a b : Int} (ha : a.natAbs < 2 ^ 36) (hb : b.natAbs < 2 ^ 36) (h : a.natAbs < b.natAbs) (h0 : 0 < b) : (divmod (fq a) (fq b)).2 = fq (if a < 0 then a + b else a) := by
  unfold divmod
  simp only [fq_fmod (a := a) (b := b) (up36 ha) (up36 hb) h, fq_isZero (a := a) (up36 ha), ← fq_zero, fq_lt (a := b) (b := 0) (up36 hb) (by decide), fq_lt (a := a) (b := 0) (up36 ha) (by decide)]
  by_cases c : a = 0
  · subst c
    rw [decide_eq_true rfl]
    simp only [if_true, Int.lt_irrefl, if_false]
    obtain ⟨t, h1, h2, h3⟩ := fq_at (n := b) (up38 (up36 hb))
    rw [dec_neg (by first | assumption | exact Int.le_of_lt (by assumption) : (0 : Int) ≤ b)] at h3
    have hs : signBit (fq b) = false := by
      rw [h3]; unfold signBit
      rw [pack_toNat false (by unfold infMag at h1; omega)]
      have : t / 2 ^ 63 = 0 := Nat.div_eq_of_lt (by unfold infMag at h1; omega)
      simp [this]
    unfold copysign
    rw [hs]
    decide +kernel
  · rw [decide_eq_false c, dec_neg (by first | assumption | exact Int.le_of_lt (by assumption) : (0 : Int) ≤ b)]
    simp only [Bool.false_eq_true, if_false]
    by_cases c2 : a < 0
    · rw [decide_eq_true c2]
      simp only [Bool.false_bne, if_true, c2]
      exact fq_add (up36 ha) (up36 hb) (.inr (Int.le_of_lt h0))
    · rw [decide_eq_false c2]
      simp only [bne_self_eq_false, Bool.false_eq_true, if_false, c2]
end Mine
end
section
open PySem PySem.W PyProof.Rows PySem.Spec PySem.Calls
set_option exponentiation.threshold 4000
namespace Mine
section
variable {prog : Program} {w : World} {A : Around} {E : Value → Shared → Prop} {s : Shared} {Q : Value → Shared → Prop} {a b n : Int} {t u : Tok}
abbrev Small (n : Int) : Prop := -1000000 < n ∧ n < 1000000
theorem fqAdd (e : a + b = n) (ha : Small a) (hb : Small b) (hs : 0 ≤ a ∨ 0 ≤ b) (h : Q (.float (fq n) s.toks) { s with toks := s.toks + 1 }) : wpAny (model prog w) A (binaryOp .Add (.float (fq a) t) (.float (fq b) u)) Q E s :=
  add_float (by rw [fq_add (by omega) (by omega) hs, e]; exact h)
theorem fqSub (e : a - b = n) (ha : Small a) (hb : Small b) (hs : 0 ≤ a) (h : Q (.float (fq n) s.toks) { s with toks := s.toks + 1 }) : wpAny (model prog w) A (binaryOp .Sub (.float (fq a) t) (.float (fq b) u)) Q E s :=
  sub_float (by rw [fq_sub (by omega) (by omega) hs, e]; exact h)
theorem fqDiv (e : a * 2048 = n * b) (ha : Small a) (hb : Small b) (hn : Small n) (h0 : 0 < b) (h : Q (.float (fq n) s.toks) { s with toks := s.toks + 1 }) : wpAny (model prog w) A (binaryOp .Div (.float (fq a) t) (.float (fq b) u)) Q E s :=
  AutoFloatOps.truediv_1 (by rw [fq_isZero (by omega), decide_eq_true_eq]; omega) (by rw [fq_div (by omega) (by omega) (by omega) h0 e]; exact h)
theorem fqMod (e : (if a < 0 then a + b else a) = n) (hb : Small b) (hl : a.natAbs < b.natAbs) (h0 : 0 < b) (h : Q (.float (fq n) s.toks) { s with toks := s.toks + 1 }) : wpAny (model prog w) A (binaryOp .Mod (.float (fq a) t) (.float (fq b) u)) Q E s :=
  AutoFloatOps.mod_1 (by rw [fq_isZero (by omega), decide_eq_true_eq]; omega) (by rw [fq_mod (by omega) (by omega) hl h0, e]; exact h)
theorem fqIntDiv (e : a * 2048 = n * b) (hn : Small n) (h0 : 0 < b) (h : Q (.float (fq n) s.toks) { s with toks := s.toks + 1 }) : wpAny (model prog w) A (binaryOp .Div (.int a t) (.int b u)) Q E s := by
  have hneg : (decide (a < 0) != decide (b < 0)) = decide (n < 0) := by
    rw [decide_eq_false (by omega : ¬ b < 0), Bool.bne_false]
    apply decide_eq_decide.mpr
    constructor
    · intro h1
      by_cases h2 : n < 0
      · exact h2
      · have := Int.mul_nonneg (show 0 ≤ n by omega) (Int.le_of_lt h0)
        omega
    · intro h1
      have := Int.mul_neg_of_neg_of_pos h1 h0
      omega
  have hq : Float64.ofFrac (decide (a < 0) != decide (b < 0)) a.natAbs b.natAbs = fq n := by rw [hneg]; exact fq_frac h0 (by omega) e
  refine AutoIntOps.truediv_2 (by simp; omega) ?_ ?_
  · rw [hq]
    obtain ⟨m, e, hd, _⟩ := fq_decode (n := n) (by omega)
    unfold Float64.isInf
    rw [hd]; simp
  · rw [hq]; exact h
theorem fqCmpB {a b : Int} (ha : Small a) (hb : Small b) : (Float64.cmp (fq a) (fq b) == some Ordering.lt) = decide (a < b) ∧ (Float64.cmp (fq a) (fq b) == some Ordering.eq) = decide (a = b) := by
  rw [fq_cmp (by omega) (by omega)]
  rcases Int.lt_trichotomy a b with h | h | h
  · rw [Int.compare_eq_lt.mpr h, decide_eq_true h, decide_eq_false (by omega)]; exact ⟨rfl, rfl⟩
  · subst h; rw [decide_eq_false (by omega), decide_eq_true rfl]; simp
  · rw [Int.compare_eq_gt.mpr h, decide_eq_false (by omega), decide_eq_false (by omega)]; exact ⟨rfl, rfl⟩
theorem fqEq (ha : Small a) (hb : Small b) (h : Q (.bool (decide (a = b))) s) : wpAny (model prog w) A (compareOp .Eq (.float (fq a) t) (.float (fq b) u)) Q E s :=
  AutoFloatOps.eq_0 (by rw [(fqCmpB ha hb).2]; exact h)
theorem fqLt (ha : Small a) (hb : Small b) (h : Q (.bool (decide (a < b))) s) : wpAny (model prog w) A (compareOp .Lt (.float (fq a) t) (.float (fq b) u)) Q E s :=
  AutoFloatOps.lt_0 (by rw [(fqCmpB ha hb).1]; exact h)
theorem fqLe (ha : Small a) (hb : Small b) (h : Q (.bool (decide (a ≤ b))) s) : wpAny (model prog w) A (compareOp .LtE (.float (fq a) t) (.float (fq b) u)) Q E s :=
  AutoFloatOps.le_0 (by
    rw [(fqCmpB ha hb).1, (fqCmpB ha hb).2]
    have : (decide (a < b) || decide (a = b)) = decide (a ≤ b) := by
      rw [← Bool.decide_or]; apply decide_eq_decide.mpr; omega
    rw [this]; exact h)
theorem fqLit {env : Env} {x : UInt64} {k : Int} {pos : Pos} {k' : Nat} (e : x = fq k) (h : Q (.float (fq k) s.toks) { s with toks := s.toks + 1 }) : wpAny (model prog w) A (eval (.Constant (.float x) k' pos) env) Q E s :=
  AutoFloatOps.wpAny_Constant_float (e ▸ h)
theorem fqBest {a b c : Int} {t u x : Tok} {M : Int} (ha : Small a) (hb : Small b) (hc : Small c) (h1 : a ≤ M) (h2 : b ≤ M) (h3 : c ≤ M) (he : a = M ∨ b = M ∨ c = M) {v : Value}
    (h : #[Value.float (fq a) t, .float (fq b) u, .float (fq c) x][argBest (fun i j => Flt.ltV (#[Value.float (fq a) t, .float (fq b) u, .float (fq c) x].getD j .none) (#[Value.float (fq a) t, .float (fq b) u, .float (fq c) x].getD i .none)) 2]? = some v) : ∃ k, v = .float (fq M) k := by
  have hl : ∀ {p q : Int} {k l : Tok}, Small p → Small q → Flt.ltV (.float (fq p) k) (.float (fq q) l) = decide (p < q) := fun hp hq => (fqCmpB hp hq).1
  have l1 := hl (k := t) (l := u) ha hb
  have l2 := hl (k := u) (l := x) hb hc
  have l3 := hl (k := t) (l := x) ha hc
  by_cases hba : a < b
  · by_cases hcb : b < c
    · have e : argBest (fun i j => Flt.ltV (#[Value.float (fq a) t, .float (fq b) u, .float (fq c) x].getD j .none) (#[Value.float (fq a) t, .float (fq b) u, .float (fq c) x].getD i .none)) 2 = 2 := by simp [argBest, l1, l2, l3, hba, hcb]
      rw [e] at h
      have : c = M := by omega
      subst this
      exact ⟨x, by simpa using h.symm⟩
    · have e : argBest (fun i j => Flt.ltV (#[Value.float (fq a) t, .float (fq b) u, .float (fq c) x].getD j .none) (#[Value.float (fq a) t, .float (fq b) u, .float (fq c) x].getD i .none)) 2 = 1 := by simp [argBest, l1, l2, l3, hba, hcb]
      rw [e] at h
      have : b = M := by omega
      subst this
      exact ⟨u, by simpa using h.symm⟩
  · by_cases hca : a < c
    · have e : argBest (fun i j => Flt.ltV (#[Value.float (fq a) t, .float (fq b) u, .float (fq c) x].getD j .none) (#[Value.float (fq a) t, .float (fq b) u, .float (fq c) x].getD i .none)) 2 = 2 := by simp [argBest, l1, l2, l3, hba, hca]
      rw [e] at h
      have : c = M := by omega
      subst this
      exact ⟨x, by simpa using h.symm⟩
    · have e : argBest (fun i j => Flt.ltV (#[Value.float (fq a) t, .float (fq b) u, .float (fq c) x].getD j .none) (#[Value.float (fq a) t, .float (fq b) u, .float (fq c) x].getD i .none)) 2 = 0 := by simp [argBest, l1, l2, l3, hba, hca]
      rw [e] at h
      have : a = M := by omega
      subst this
      exact ⟨t, by simpa using h.symm⟩
theorem fqWorst {a b c : Int} {t u x : Tok} {M : Int} (ha : Small a) (hb : Small b) (hc : Small c) (h1 : M ≤ a) (h2 : M ≤ b) (h3 : M ≤ c) (he : a = M ∨ b = M ∨ c = M) {v : Value}
    (h : #[Value.float (fq a) t, .float (fq b) u, .float (fq c) x][argBest (fun i j => Flt.ltV (#[Value.float (fq a) t, .float (fq b) u, .float (fq c) x].getD i .none) (#[Value.float (fq a) t, .float (fq b) u, .float (fq c) x].getD j .none)) 2]? = some v) : ∃ k, v = .float (fq M) k := by
  have hl : ∀ {p q : Int} {k l : Tok}, Small p → Small q → Flt.ltV (.float (fq p) k) (.float (fq q) l) = decide (p < q) := fun hp hq => (fqCmpB hp hq).1
  have l1 := hl (k := u) (l := t) hb ha
  have l2 := hl (k := x) (l := u) hc hb
  have l3 := hl (k := x) (l := t) hc ha
  by_cases hba : b < a
  · by_cases hcb : c < b
    · have e : argBest (fun i j => Flt.ltV (#[Value.float (fq a) t, .float (fq b) u, .float (fq c) x].getD i .none) (#[Value.float (fq a) t, .float (fq b) u, .float (fq c) x].getD j .none)) 2 = 2 := by simp [argBest, l1, l2, l3, hba, hcb]
      rw [e] at h
      have : c = M := by omega
      subst this
      exact ⟨x, by simpa using h.symm⟩
    · have e : argBest (fun i j => Flt.ltV (#[Value.float (fq a) t, .float (fq b) u, .float (fq c) x].getD i .none) (#[Value.float (fq a) t, .float (fq b) u, .float (fq c) x].getD j .none)) 2 = 1 := by simp [argBest, l1, l2, l3, hba, hcb]
      rw [e] at h
      have : b = M := by omega
      subst this
      exact ⟨u, by simpa using h.symm⟩
  · by_cases hca : c < a
    · have e : argBest (fun i j => Flt.ltV (#[Value.float (fq a) t, .float (fq b) u, .float (fq c) x].getD i .none) (#[Value.float (fq a) t, .float (fq b) u, .float (fq c) x].getD j .none)) 2 = 2 := by simp [argBest, l1, l2, l3, hba, hca]
      rw [e] at h
      have : c = M := by omega
      subst this
      exact ⟨x, by simpa using h.symm⟩
    · have e : argBest (fun i j => Flt.ltV (#[Value.float (fq a) t, .float (fq b) u, .float (fq c) x].getD i .none) (#[Value.float (fq a) t, .float (fq b) u, .float (fq c) x].getD j .none)) 2 = 0 := by simp [argBest, l1, l2, l3, hba, hca]
      rw [e] at h
      have : a = M := by omega
      subst this
      exact ⟨t, by simpa using h.symm⟩
theorem fqMax {g : Heap} {L : Addr} {m : Str → Option Value} {news : List (Addr × Obj)} {a b c M : Int} {x : Tok} (hh : A.handled = none) (F : Fr g L s.heap m) (N : News g L s.heap news)
    (ha : Small a) (hb : Small b) (hc : Small c) (h1 : a ≤ M) (h2 : b ≤ M) (h3 : c ≤ M) (he : a = M ∨ b = M ∨ c = M)
    (h : ∀ h' tk k, Fr g L h' m → News g L h' news → Q (.float (fq M) k) { s with heap := h', toks := tk }) :
    wpAny (model prog w) A (call (.builtin "max") [.float (fq a) t, .float (fq b) u, .float (fq c) x]) Q E s := by
  have hT : (s.heap.push { cls := .type "tuple", data := .seq #[.float (fq a) t, .float (fq b) u, .float (fq c) x] }).IsTuple s.heap.objs.size #[.float (fq a) t, .float (fq b) u, .float (fq c) x] := ⟨_, Heap.get?_push_size _ rfl, rfl, 0, rfl⟩
  refine call_max_three (wpAny_pyIter_tuple hT ?_)
  have hsz : (s.heap.push { cls := .type "tuple", data := .seq #[.float (fq a) t, .float (fq b) u, .float (fq c) x] }).objs.size = s.heap.objs.size + 1 := Heap.size_push ..
  refine ⟨_, [_, s.heap.objs.size], [_], _, _, _, _, rfl, Walks.tuple (A := A.in1) hh _ s.heap.objs.size (by rw [hsz]; exact Nat.ne_of_lt (Nat.lt_succ_self _)) #[.float (fq a) t, .float (fq b) u, .float (fq c) x],
    ⟨⟨_, Heap.get?_push_size _ rfl, rfl, rfl⟩, hT.push _⟩, fun d hd => ?_, by simp, Flt.cmpOf_gt #[.float (fq a) t, .float (fq b) u, .float (fq c) x] (by intro v hv; simp at hv; rcases hv with rfl | rfl | rfl <;> exact .float _ _), fun v h' tk hP hk => ?_⟩
  · show d < ((s.heap.push _).push _).objs.size
    rw [Heap.size_push, hsz]
    rcases List.mem_cons.mp hd with rfl | hd
    · rw [hsz]; exact Nat.lt_succ_self _
    · rcases List.mem_cons.mp hd with rfl | hd
      · exact Nat.lt_succ_of_lt (Nat.lt_succ_self _)
      · cases hd
  · have hold : ∀ d o, s.heap.get? d = some o → h'.get? d = some o := fun d o e => by
      refine hk d o (fun hm => ?_) (Heap.get?_push_of_some _ (Heap.get?_push_of_some _ e))
      rcases List.mem_cons.mp hm with e1 | hm
      · have := Heap.lt_size e; rw [e1, hsz] at this; exact Nat.lt_irrefl _ (Nat.lt_of_succ_lt this)
      · cases hm
    obtain ⟨k, rfl⟩ := fqBest ha hb hc h1 h2 h3 he hP
    exact h h' tk k (F.grownK hold) (N.grown hold)
theorem fqMin {g : Heap} {L : Addr} {m : Str → Option Value} {news : List (Addr × Obj)} {a b c M : Int} {x : Tok} (hh : A.handled = none) (F : Fr g L s.heap m) (N : News g L s.heap news)
    (ha : Small a) (hb : Small b) (hc : Small c) (h1 : M ≤ a) (h2 : M ≤ b) (h3 : M ≤ c) (he : a = M ∨ b = M ∨ c = M)
    (h : ∀ h' tk k, Fr g L h' m → News g L h' news → Q (.float (fq M) k) { s with heap := h', toks := tk }) :
    wpAny (model prog w) A (call (.builtin "min") [.float (fq a) t, .float (fq b) u, .float (fq c) x]) Q E s := by
  have hT : (s.heap.push { cls := .type "tuple", data := .seq #[.float (fq a) t, .float (fq b) u, .float (fq c) x] }).IsTuple s.heap.objs.size #[.float (fq a) t, .float (fq b) u, .float (fq c) x] := ⟨_, Heap.get?_push_size _ rfl, rfl, 0, rfl⟩
  refine call_min_three (wpAny_pyIter_tuple hT ?_)
  have hsz : (s.heap.push { cls := .type "tuple", data := .seq #[.float (fq a) t, .float (fq b) u, .float (fq c) x] }).objs.size = s.heap.objs.size + 1 := Heap.size_push ..
  refine ⟨_, [_, s.heap.objs.size], [_], _, _, _, _, rfl, Walks.tuple (A := A.in1) hh _ s.heap.objs.size (by rw [hsz]; exact Nat.ne_of_lt (Nat.lt_succ_self _)) #[.float (fq a) t, .float (fq b) u, .float (fq c) x],
    ⟨⟨_, Heap.get?_push_size _ rfl, rfl, rfl⟩, hT.push _⟩, fun d hd => ?_, by simp, Flt.cmpOf_lt #[.float (fq a) t, .float (fq b) u, .float (fq c) x] (by intro v hv; simp at hv; rcases hv with rfl | rfl | rfl <;> exact .float _ _), fun v h' tk hP hk => ?_⟩
  · show d < ((s.heap.push _).push _).objs.size
    rw [Heap.size_push, hsz]
    rcases List.mem_cons.mp hd with rfl | hd
    · rw [hsz]; exact Nat.lt_succ_self _
    · rcases List.mem_cons.mp hd with rfl | hd
      · exact Nat.lt_succ_of_lt (Nat.lt_succ_self _)
      · cases hd
  · have hold : ∀ d o, s.heap.get? d = some o → h'.get? d = some o := fun d o e => by
      refine hk d o (fun hm => ?_) (Heap.get?_push_of_some _ (Heap.get?_push_of_some _ e))
      rcases List.mem_cons.mp hm with e1 | hm
      · have := Heap.lt_size e; rw [e1, hsz] at this; exact Nat.lt_irrefl _ (Nat.lt_of_succ_lt this)
      · cases hm
    obtain ⟨k, rfl⟩ := fqWorst ha hb hc h1 h2 h3 he hP
    exact h h' tk k (F.grownK hold) (N.grown hold)
end
end Mine
end
section
open PySem PySem.W PyProof.Rows PySem.Spec PySem.Calls
namespace Mine
/-- what the walk looks up: a sum, a difference, a quotient, a rest of 2048ths -/
def AddIs (a b n : Int) : Prop := a + b = n ∧ Small a ∧ Small b ∧ (0 ≤ a ∨ 0 ≤ b)
def SubIs (a b n : Int) : Prop := a - b = n ∧ Small a ∧ Small b ∧ 0 ≤ a
def DivIs (a b n : Int) : Prop := a * 2048 = n * b ∧ Small a ∧ Small b ∧ Small n ∧ 0 < b
def ModIs (a b n : Int) : Prop := (if a < 0 then a + b else a) = n ∧ Small b ∧ a.natAbs < b.natAbs ∧ 0 < b
def CmpOk (a b : Int) : Prop := Small a ∧ Small b
def MaxIs (a b c M : Int) : Prop := Small a ∧ Small b ∧ Small c ∧ a ≤ M ∧ b ≤ M ∧ c ≤ M ∧ (a = M ∨ b = M ∨ c = M)
def MinIs (a b c M : Int) : Prop := Small a ∧ Small b ∧ Small c ∧ M ≤ a ∧ M ≤ b ∧ M ≤ c ∧ (a = M ∨ b = M ∨ c = M)
/-- a fact that holds on some ways -/
def When (c p : Prop) : Prop := c → p
theorem When.use {c p : Prop} (h : When c p) (hc : c) : p := h hc
section
variable {prog : Program} {w : World} {A : Around} {E : Value → Shared → Prop} {s : Shared} {Q : Value → Shared → Prop} {a b n : Int} {t u : Tok}
theorem wAdd (i : AddIs a b n) (h : Q (.float (fq n) s.toks) { s with toks := s.toks + 1 }) : wpAny (model prog w) A (binaryOp .Add (.float (fq a) t) (.float (fq b) u)) Q E s := fqAdd i.1 i.2.1 i.2.2.1 i.2.2.2 h
theorem wSub (i : SubIs a b n) (h : Q (.float (fq n) s.toks) { s with toks := s.toks + 1 }) : wpAny (model prog w) A (binaryOp .Sub (.float (fq a) t) (.float (fq b) u)) Q E s := fqSub i.1 i.2.1 i.2.2.1 i.2.2.2 h
theorem wDiv (i : DivIs a b n) (h : Q (.float (fq n) s.toks) { s with toks := s.toks + 1 }) : wpAny (model prog w) A (binaryOp .Div (.float (fq a) t) (.float (fq b) u)) Q E s := fqDiv i.1 i.2.1 i.2.2.1 i.2.2.2.1 i.2.2.2.2 h
theorem wIDiv (i : DivIs a b n) (h : Q (.float (fq n) s.toks) { s with toks := s.toks + 1 }) : wpAny (model prog w) A (binaryOp .Div (.int a t) (.int b u)) Q E s := fqIntDiv i.1 i.2.2.2.1 i.2.2.2.2 h
theorem wMod (i : ModIs a b n) (h : Q (.float (fq n) s.toks) { s with toks := s.toks + 1 }) : wpAny (model prog w) A (binaryOp .Mod (.float (fq a) t) (.float (fq b) u)) Q E s := fqMod i.1 i.2.1 i.2.2.1 i.2.2.2 h
theorem wEq (i : CmpOk a b) (h : Q (.bool (decide (a = b))) s) : wpAny (model prog w) A (compareOp .Eq (.float (fq a) t) (.float (fq b) u)) Q E s := fqEq i.1 i.2 h
theorem wLt (i : CmpOk a b) (h : Q (.bool (decide (a < b))) s) : wpAny (model prog w) A (compareOp .Lt (.float (fq a) t) (.float (fq b) u)) Q E s := fqLt i.1 i.2 h
theorem wLe (i : CmpOk a b) (h : Q (.bool (decide (a ≤ b))) s) : wpAny (model prog w) A (compareOp .LtE (.float (fq a) t) (.float (fq b) u)) Q E s := fqLe i.1 i.2 h
theorem wMax {g : Heap} {L : Addr} {m : Str → Option Value} {news : List (Addr × Obj)} {c M : Int} {x : Tok} (hh : A.handled = none) (F : Fr g L s.heap m) (N : News g L s.heap news) (i : MaxIs a b c M)
    (h : ∀ h' tk k, Fr g L h' m → News g L h' news → Q (.float (fq M) k) { s with heap := h', toks := tk }) : wpAny (model prog w) A (call (.builtin "max") [.float (fq a) t, .float (fq b) u, .float (fq c) x]) Q E s :=
  fqMax hh F N i.1 i.2.1 i.2.2.1 i.2.2.2.1 i.2.2.2.2.1 i.2.2.2.2.2.1 i.2.2.2.2.2.2 h
theorem wMin {g : Heap} {L : Addr} {m : Str → Option Value} {news : List (Addr × Obj)} {c M : Int} {x : Tok} (hh : A.handled = none) (F : Fr g L s.heap m) (N : News g L s.heap news) (i : MinIs a b c M)
    (h : ∀ h' tk k, Fr g L h' m → News g L h' news → Q (.float (fq M) k) { s with heap := h', toks := tk }) : wpAny (model prog w) A (call (.builtin "min") [.float (fq a) t, .float (fq b) u, .float (fq c) x]) Q E s :=
  fqMin hh F N i.1 i.2.1 i.2.2.1 i.2.2.2.1 i.2.2.2.2.1 i.2.2.2.2.2.1 i.2.2.2.2.2.2 h
end
theorem lit_0 : (0 : UInt64) = fq 0 := by decide +kernel
theorem lit_half : (4602678819172646912 : UInt64) = fq 1024 := by decide +kernel
theorem lit_1 : (4607182418800017408 : UInt64) = fq 2048 := by decide +kernel
theorem lit_2 : (4611686018427387904 : UInt64) = fq 4096 := by decide +kernel
theorem lit_4 : (4616189618054758400 : UInt64) = fq 8192 := by decide +kernel
theorem lit_6 : (4618441417868443648 : UInt64) = fq 12288 := by decide +kernel
end Mine
end
section
open PySem PySem.W PyProof.Rows PySem.Spec PySem.Calls
set_option Elab.async false
namespace Mine
section
variable {k L M m a fa : Int}
theorem pk (hk : 0 ≤ k) (hM : M = 128 * L + 16 * k) (hm : m = 128 * L - 16 * k) (c : ¬ m = M) : 0 < k := by
  rcases Int.lt_or_eq_of_le hk with h | h
  · exact h
  · exact absurd (by rw [hM, hm, ← h]; rfl) c
theorem pl (c : 128 * L ≤ 1024) : L ≤ 8 := by omega
theorem ph (c : ¬ 128 * L ≤ 1024) : 8 < L := by omega
theorem pfa (za : a = M ↔ k = 0 ∨ fa = 0) (h : 0 < k) (c : a = M) : fa = 0 := (za.mp c).resolve_left (Int.ne_of_gt h)
theorem pfn (za : a = M ↔ k = 0 ∨ fa = 0) (h : 0 < k) (c : ¬ a = M) : fa ≠ 0 := fun e => c (za.mpr (.inr e))
end
theorem fill_hls : hd.heap_1 = hd.heap_1 ∧ PySem.Challenge.rw_pg0177_01 = PySem.Challenge.rw_pg0177_01 := by k_fill; exact ⟨rfl, rfl⟩
set_option pp.maxSteps 400
set_option pp.deepTerms.threshold 6
set_option linter.unusedVariables false
set_option maxRecDepth 100000 in
set_option maxHeartbeats 8000000 in
theorem hls {p : Program} {loose : List Str} {mean : ExcName → Option Value} {mg mb : Str → Option Value} {w : World}
    {dp un : Nat} {fr : List Env} {gd : Option (List Code)} {s : Shared} {Q E : Value → Shared → Prop} {g : Heap}
    {a b c M m L k S fa fb fc H H1 : Int} {t1 t2 t3 : Tok}
    (st : g.StaysIn s.heap) (X : (hd.heap_1 w.params).In g) (T : Top p loose mean mg mb g)
    (hdp : dp + 5 < recursionLimit) (hun : un + 50 < cLine)
    (hk : 0 ≤ k) (hM : M = 128 * L + 16 * k) (hm : m = 128 * L - 16 * k)
    (za : a = M ↔ k = 0 ∨ fa = 0) (zb : b = M ↔ k = 0 ∨ fb = 0)
    (i1 : MaxIs a b c M) (i2 : MinIs a b c m) (i3 : AddIs M m (256 * L)) (i4 : SubIs M m (32 * k)) (i5 : DivIs (256 * L) 4096 (128 * L)) (i6 : CmpOk m M) (i7 : CmpOk (128 * L) 1024)
    (i8 : When (0 < k ∧ L ≤ 8) (DivIs (32 * k) (256 * L) (256 * S))) (i9 : SubIs 4096 M (4096 - M)) (i10 : SubIs (4096 - M) m (4096 - 256 * L)) (i11 : When (0 < k ∧ 8 < L) (DivIs (32 * k) (4096 - 256 * L) (256 * S)))
    (ia : SubIs M a (k * fa)) (ib : SubIs M b (k * fb)) (ic : SubIs M c (k * fc))
    (ja : When (0 < k) (DivIs (k * fa) (32 * k) (64 * fa))) (jb : When (0 < k) (DivIs (k * fb) (32 * k) (64 * fb))) (jc : When (0 < k) (DivIs (k * fc) (32 * k) (64 * fc)))
    (ka : CmpOk a M) (kb : CmpOk b M)
    (l1 : When (fa = 0) (SubIs (64 * fc) (64 * fb) (192 * H1))) (l2 : When (fa = 0) (DivIs (192 * H1) 12288 (32 * H1))) (l3 : When (fa = 0) (ModIs (32 * H1) 2048 (32 * H)))
    (m1 : AddIs 4096 (64 * fa) (4096 + 64 * fa)) (m2 : When (fa ≠ 0 ∧ fb = 0) (SubIs (4096 + 64 * fa) (64 * fc) (192 * H))) (m3 : DivIs (192 * H) 12288 (32 * H)) (m4 : ModIs (32 * H) 2048 (32 * H))
    (n1 : AddIs 8192 (64 * fb) (8192 + 64 * fb)) (n2 : When (fa ≠ 0 ∧ fb ≠ 0) (SubIs (8192 + 64 * fb) (64 * fa) (192 * H)))
    (hret : ∀ q t h' tk' ta tb tc, But [] s.heap h' → s.heap.get? q = none → h'.get? q = some (tupO [.float (fq (if k = 0 then 0 else 32 * H)) ta, .float (fq (128 * L)) tb, .float (fq (if k = 0 then 0 else 256 * S)) tc] t) → (ta ≠ 0 ∧ tb ≠ 0 ∧ tc ≠ 0) → Q (.ref q) { s with heap := h', toks := tk' }) :
    wpAny (model PySem.Challenge.pw_pg0177_01 w) (arnd dp un fr gd) (call (.ref 21) [.float (fq a) t1, .float (fq b) t2, .float (fq c) t3] []) Q E s := by
  w_top off
  k_with_none
  k_with "eval Constant float" => first | refine fqLit lit_0 ?_ | refine fqLit lit_half ?_ | refine fqLit lit_1 ?_ | refine fqLit lit_2 ?_ | refine fqLit lit_4 ?_ | refine fqLit lit_6 ?_
  k_with "execs cons" => ((with_reducible refine wpAny_execs_cons ?_); try dsimp only)
  k_with "call builtin:max" => ((rename News _ _ _ _ => N'); (rename Fr _ _ _ _ => F'); refine wMax rfl F' N' (by assumption) ?_; clear N'; intro _ _ _ _ _)
  k_with "call builtin:min" => ((rename News _ _ _ _ => N'); (rename Fr _ _ _ _ => F'); refine wMin rfl F' N' (by assumption) ?_; clear N'; intro _ _ _ _ _)
  k_with "binaryOp Add float float" => first | refine wAdd (by assumption) ?_ | refine wAdd (When.use (by assumption) (by first | exact pk hk hM hm (by assumption) | exact ⟨pk hk hM hm (by assumption), pl (by assumption)⟩ | exact ⟨pk hk hM hm (by assumption), ph (by assumption)⟩ | exact pfa za (pk hk hM hm (by assumption)) (by assumption) | exact ⟨pfn za (pk hk hM hm (by assumption)) (by assumption), pfa zb (pk hk hM hm (by assumption)) (by assumption)⟩ | exact ⟨pfn za (pk hk hM hm (by assumption)) (by assumption), pfn zb (pk hk hM hm (by assumption)) (by assumption)⟩)) ?_
  k_with "binaryOp Sub float float" => first | refine wSub (by assumption) ?_ | refine wSub (When.use (by assumption) (by first | exact pk hk hM hm (by assumption) | exact ⟨pk hk hM hm (by assumption), pl (by assumption)⟩ | exact ⟨pk hk hM hm (by assumption), ph (by assumption)⟩ | exact pfa za (pk hk hM hm (by assumption)) (by assumption) | exact ⟨pfn za (pk hk hM hm (by assumption)) (by assumption), pfa zb (pk hk hM hm (by assumption)) (by assumption)⟩ | exact ⟨pfn za (pk hk hM hm (by assumption)) (by assumption), pfn zb (pk hk hM hm (by assumption)) (by assumption)⟩)) ?_
  k_with "binaryOp Div float float" => first | refine wDiv (by assumption) ?_ | refine wDiv (When.use (by assumption) (by first | exact pk hk hM hm (by assumption) | exact ⟨pk hk hM hm (by assumption), pl (by assumption)⟩ | exact ⟨pk hk hM hm (by assumption), ph (by assumption)⟩ | exact pfa za (pk hk hM hm (by assumption)) (by assumption) | exact ⟨pfn za (pk hk hM hm (by assumption)) (by assumption), pfa zb (pk hk hM hm (by assumption)) (by assumption)⟩ | exact ⟨pfn za (pk hk hM hm (by assumption)) (by assumption), pfn zb (pk hk hM hm (by assumption)) (by assumption)⟩)) ?_
  k_with "binaryOp Mod float float" => first | refine wMod (by assumption) ?_ | refine wMod (When.use (by assumption) (by first | exact pk hk hM hm (by assumption) | exact ⟨pk hk hM hm (by assumption), pl (by assumption)⟩ | exact ⟨pk hk hM hm (by assumption), ph (by assumption)⟩ | exact pfa za (pk hk hM hm (by assumption)) (by assumption) | exact ⟨pfn za (pk hk hM hm (by assumption)) (by assumption), pfa zb (pk hk hM hm (by assumption)) (by assumption)⟩ | exact ⟨pfn za (pk hk hM hm (by assumption)) (by assumption), pfn zb (pk hk hM hm (by assumption)) (by assumption)⟩)) ?_
  k_with "compareOp Eq float float" => refine wEq (by assumption) ?_
  k_with "compareOp LtE float float" => refine wLe (by assumption) ?_
  refine' entered (args := ⟨[.float (fq a) t1, .float (fq b) t2, .float (fq c) t3], []⟩) (ob := []) ?k8 st X T ?kO ?k6 ?k7 ?k9 ?kB ?_ ?c2 ?c3 ?c4 ?c5
  case k8 => exact room0 hdp
  case kO => exact (fun _ q => nomatch q)
  case k6 => k_is
  case k7 => k_is
  case k9 => first | exact BindsTo.of_eq rfl | exact binds_K (X.keeps st) rfl (by k_is) rfl rfl rfl
  case kB => exact locs rfl
  case c2 => exact rfl
  case c3 => exact rfl
  case c4 => exact rfl
  case c5 => decide
  intro g' L' h' hz eL hS hO X' T' F' N'
  clear X T st
  dsimp only
  k_fold
  k_steps
  all_goals (rename News _ _ _ _ => N)
  all_goals (rename Fr _ _ _ _ => F)
  all_goals (by_cases hk0 : k = 0)
  all_goals first | (exfalso; omega) | skip
  all_goals first
    | exact hret _ _ _ _ _ _ _ (But.ofFr F hz hS) (notOld hS (N _ (List.Mem.head _)).2.2 (by simp)) (by rw [if_pos hk0, if_pos hk0]; exact (N _ (List.Mem.head _)).1) (by refine ⟨?_, ?_, ?_⟩ <;> first | exact Nat.succ_ne_zero _ | decide | (trace_state; fail))
    | exact hret _ _ _ _ _ _ _ (But.ofFr F hz hS) (notOld hS (N _ (List.Mem.head _)).2.2 (by simp)) (by rw [if_neg hk0, if_neg hk0]; exact (N _ (List.Mem.head _)).1) (by refine ⟨?_, ?_, ?_⟩ <;> first | exact Nat.succ_ne_zero _ | decide | (trace_state; fail))
end Mine
end
section
open PySem PySem.W PyProof.Rows PySem.Spec PySem.Calls
set_option linter.unusedVariables false
namespace Mine
/-- what the whole numbers say of a hue -/
abbrev hueOk (h : Int) : Prop :=
  (0 ≤ fallP h 0 ∧ fallP h 0 ≤ 32) ∧ (0 ≤ fallP h 64 ∧ fallP h 64 ≤ 32) ∧ (0 ≤ fallP h 128 ∧ fallP h 128 ≤ 32) ∧
  (fallP h 0 = 0 ∨ fallP h 64 = 0 ∨ fallP h 128 = 0) ∧ (fallP h 0 = 32 ∨ fallP h 64 = 32 ∨ fallP h 128 = 32) ∧
  (fallP h 0 = 0 → fallP h 128 - fallP h 64 = 3 * (if h < 32 then h else h - 64)) ∧
  (fallP h 0 ≠ 0 ∧ fallP h 64 = 0 → 64 + fallP h 0 - fallP h 128 = 3 * h) ∧
  (fallP h 0 ≠ 0 ∧ fallP h 64 ≠ 0 → 128 + fallP h 64 - fallP h 0 = 3 * h)
theorem hue_all : ∀ n : Fin 64, hueOk (n.val : Int) := by decide +kernel
theorem hue_ok {h : Int} (h0 : 0 ≤ h) (h1 : h < 64) : hueOk h := by
  have := hue_all ⟨h.toNat, by omega⟩
  have e : ((h.toNat : Nat) : Int) = h := by omega
  simpa [e] using this
/-- half the span of a colour's figures, in 16ths of 2048ths -/
noncomputable def spanP (L S : Int) : Int := S * minI L (16 - L)
theorem span_range {L S : Int} (h3 : 0 ≤ L) (h4 : L ≤ 16) (h5 : 0 ≤ S) (h6 : S ≤ 8) : 0 ≤ spanP L S ∧ spanP L S ≤ 64 ∧ (spanP L S = 0 ↔ S * L * (16 - L) = 0) := by
  have hm : 0 ≤ minI L (16 - L) ∧ minI L (16 - L) ≤ 8 := by unfold minI; split <;> omega
  refine ⟨Int.mul_nonneg h5 hm.1, Int.mul_le_mul h6 hm.2 hm.1 (by decide), ?_⟩
  unfold spanP
  rw [Int.mul_eq_zero, Int.mul_eq_zero, Int.mul_eq_zero]
  unfold minI
  split <;> omega
theorem span_lo {L S : Int} (h : L ≤ 8) : spanP L S = S * L := by
  unfold spanP minI; rw [if_neg (by omega)]
theorem span_hi {L S : Int} (h : 8 < L) : spanP L S = S * (16 - L) := by
  unfold spanP minI; rw [if_pos (by omega)]
theorem part_span (h L S c : Int) : partP h L S c = 128 * L + 16 * spanP L S - spanP L S * fallP h c := by
  unfold partP spanP
  generalize S * minI L (16 - L) = k
  rw [Int.mul_sub]; omega
theorem mul_32 {k f : Int} (hk : 0 ≤ k) (h0 : 0 ≤ f) (h1 : f ≤ 32) : 0 ≤ k * f ∧ k * f ≤ 32 * k :=
  ⟨Int.mul_nonneg hk h0, by rw [Int.mul_comm 32 k]; exact Int.mul_le_mul_of_nonneg_left h1 hk⟩
theorem div_fall {k f : Int} (h0 : 0 ≤ f) (h1 : f ≤ 32) (hk : k ≤ 64) (hk0 : 0 < k) : DivIs (k * f) (32 * k) (64 * f) := by
  have b := mul_32 (Int.le_of_lt hk0) h0 h1
  refine ⟨?_, ⟨by omega, by omega⟩, ⟨by omega, by omega⟩, ⟨by omega, by omega⟩, by omega⟩
  rw [show 64 * f * (32 * k) = (k * f) * 2048 by rw [Int.mul_comm 64 f, Int.mul_comm 32 k]; rw [show f * 64 * (k * 32) = k * f * (64 * 32) by ac_rfl]; rfl]
theorem small_of {x : Int} (h : -100000 ≤ x) (h' : x ≤ 100000) : Small x := ⟨by omega, by omega⟩
theorem pt_ok {L k f a : Int} (h3 : 0 ≤ L) (h4 : L ≤ 16) (k0 : 0 ≤ k) (k1 : k ≤ 64) (m : 0 ≤ k * f ∧ k * f ≤ 32 * k) (pa : a = 128 * L + 16 * k - k * f) :
    Small a ∧ a ≤ 128 * L + 16 * k ∧ 128 * L - 16 * k ≤ a ∧ SubIs (128 * L + 16 * k) a (k * f) ∧ CmpOk a (128 * L + 16 * k) := by
  generalize k * f = y at m pa
  subst pa
  have sM : Small (128 * L + 16 * k) := small_of (by omega) (by omega)
  have sa : Small (128 * L + 16 * k - y) := small_of (by omega) (by omega)
  exact ⟨sa, by omega, by omega, ⟨by omega, sM, sa, by omega⟩, sa, sM⟩
theorem mm_ok {L k : Int} (h3 : 0 ≤ L) (h4 : L ≤ 16) (k0 : 0 ≤ k) (k1 : k ≤ 64) : AddIs (128 * L + 16 * k) (128 * L - 16 * k) (256 * L) ∧ SubIs (128 * L + 16 * k) (128 * L - 16 * k) (32 * k) ∧ DivIs (256 * L) 4096 (128 * L) ∧
    CmpOk (128 * L - 16 * k) (128 * L + 16 * k) ∧ CmpOk (128 * L) 1024 ∧ SubIs 4096 (128 * L + 16 * k) (4096 - (128 * L + 16 * k)) ∧ SubIs (4096 - (128 * L + 16 * k)) (128 * L - 16 * k) (4096 - 256 * L) := by
  have sM : Small (128 * L + 16 * k) := small_of (by omega) (by omega)
  have sm : Small (128 * L - 16 * k) := small_of (by omega) (by omega)
  have sL : Small (128 * L) := small_of (by omega) (by omega)
  have s4 : Small 4096 := small_of (by decide) (by decide)
  exact ⟨⟨by omega, sM, sm, .inl (by omega)⟩, ⟨by omega, sM, sm, by omega⟩, ⟨by omega, small_of (by omega) (by omega), s4, sL, by decide⟩, ⟨sm, sM⟩, ⟨sL, small_of (by decide) (by decide)⟩, ⟨rfl, s4, sM, by decide⟩,
    ⟨by omega, small_of (by omega) (by omega), sm, by omega⟩⟩
theorem top_of {k f M a : Int} (pa : a = M - k * f) (e : f = 0) : a = M := by rw [pa, e, Int.mul_zero, Int.sub_zero]
theorem low_of {L k f a : Int} (pa : a = 128 * L + 16 * k - k * f) (e : f = 32) : a = 128 * L - 16 * k := by rw [pa, e, Int.mul_comm k 32]; omega
theorem top_iff {k f M a : Int} (pa : a = M - k * f) : a = M ↔ k = 0 ∨ f = 0 := by
  rw [← Int.mul_eq_zero (a := k) (b := f), pa]; generalize k * f = y; omega
theorem sub_64 {x y z : Int} (hx : 0 ≤ x ∧ x ≤ 32) (hy : 0 ≤ y ∧ y ≤ 32) (e : x - y = 3 * z) : SubIs (64 * x) (64 * y) (192 * z) := ⟨by omega, small_of (by omega) (by omega), small_of (by omega) (by omega), by omega⟩
theorem add_64 {n x : Int} (hn : 0 ≤ n ∧ n ≤ 8192) (hx : 0 ≤ x ∧ x ≤ 32) : AddIs n (64 * x) (n + 64 * x) := ⟨rfl, small_of (by omega) (by omega), small_of (by omega) (by omega), .inl hn.1⟩
theorem sub_n64 {n x y z : Int} (hn : 0 ≤ n ∧ n ≤ 128) (hx : 0 ≤ x ∧ x ≤ 32) (hy : 0 ≤ y ∧ y ≤ 32) (e : n + x - y = 3 * z) : SubIs (64 * n + 64 * x) (64 * y) (192 * z) := ⟨by omega, small_of (by omega) (by omega), small_of (by omega) (by omega), by omega⟩
theorem div_192 {z : Int} (h : -64 ≤ z ∧ z ≤ 64) : DivIs (192 * z) 12288 (32 * z) := ⟨by omega, small_of (by omega) (by omega), small_of (by decide) (by decide), small_of (by omega) (by omega), by decide⟩
theorem mod_32 {z : Int} (h : 0 ≤ z ∧ z < 64) : ModIs (32 * z) 2048 (32 * z) := ⟨if_neg (by omega), small_of (by decide) (by decide), by omega, by decide⟩
theorem mod_32n {z y : Int} (e : y = if z < 32 then z else z - 64) (h : 0 ≤ z ∧ z < 64) : ModIs (32 * y) 2048 (32 * z) := by
  by_cases c : z < 32
  · rw [if_pos c] at e; subst e; exact mod_32 h
  · rw [if_neg c] at e; subst e
    exact ⟨by rw [if_pos (by omega)]; omega, small_of (by decide) (by decide), by omega, by decide⟩
theorem div_SL {S L : Int} (h5 : 0 ≤ S) (h6 : S ≤ 8) (hL : 0 < L) (h4 : L ≤ 16) (k1 : S * L ≤ 64) : DivIs (32 * (S * L)) (256 * L) (256 * S) := by
  have k0 : 0 ≤ S * L := Int.mul_nonneg h5 (Int.le_of_lt hL)
  refine ⟨?_, small_of (by omega) (by omega), small_of (by omega) (by omega), small_of (by omega) (by omega), by omega⟩
  rw [show 32 * (S * L) * 2048 = S * L * 65536 by omega, show 256 * S * (256 * L) = S * L * (256 * 256) by ac_rfl]
  rfl
theorem hlsSpot {p : Program} {loose : List Str} {mean : ExcName → Option Value} {mg mb : Str → Option Value} {w : World}
    {dp un : Nat} {fr : List Env} {gd : Option (List Code)} {s : Shared} {Q E : Value → Shared → Prop} {g : Heap}
    {H L S : Int} {t1 t2 t3 : Tok} (st : g.StaysIn s.heap) (X : (hd.heap_1 w.params).In g) (T : Top p loose mean mg mb g)
    (hdp : dp + 5 < recursionLimit) (hun : un + 50 < cLine) (h1 : 0 ≤ H) (h2 : H < 64) (h3 : 0 ≤ L) (h4 : L ≤ 16) (h5 : 0 ≤ S) (h6 : S ≤ 8)
    (hret : ∀ q t h' tk' ta tb tc, But [] s.heap h' → s.heap.get? q = none → h'.get? q = some (tupO [.float (fq (if S * L * (16 - L) = 0 then 0 else 32 * H)) ta, .float (fq (128 * L)) tb, .float (fq (if S * L * (16 - L) = 0 then 0 else 256 * S)) tc] t) → (ta ≠ 0 ∧ tb ≠ 0 ∧ tc ≠ 0) → Q (.ref q) { s with heap := h', toks := tk' }) :
    wpAny (model PySem.Challenge.pw_pg0177_01 w) (arnd dp un fr gd) (call (.ref 21) [.float (fq (partP H L S 0)) t1, .float (fq (partP H L S 64)) t2, .float (fq (partP H L S 128)) t3] []) Q E s := by
  obtain ⟨a1, a2, a3, a4, a5, a6, a7, a8⟩ := hue_ok h1 h2
  obtain ⟨k0, k1, k2⟩ := span_range h3 h4 h5 h6
  have pa := part_span H L S 0
  have pb := part_span H L S 64
  have pc := part_span H L S 128
  have lo := @span_lo L S
  have hi := @span_hi L S
  generalize partP H L S 0 = a at *
  generalize partP H L S 64 = b at *
  generalize partP H L S 128 = c at *
  generalize spanP L S = k at *
  generalize fallP H 0 = fa at *
  generalize fallP H 64 = fb at *
  generalize fallP H 128 = fc at *
  have ma := mul_32 k0 a1.1 a1.2
  have mb' := mul_32 k0 a2.1 a2.2
  have mc := mul_32 k0 a3.1 a3.2
  have A := pt_ok h3 h4 k0 k1 (mul_32 k0 a1.1 a1.2) pa
  have B := pt_ok h3 h4 k0 k1 (mul_32 k0 a2.1 a2.2) pb
  have C := pt_ok h3 h4 k0 k1 (mul_32 k0 a3.1 a3.2) pc
  obtain ⟨q1, q2, q3, q4, q5, q6, q7⟩ := mm_ok h3 h4 k0 k1
  refine hls (M := 128 * L + 16 * k) (m := 128 * L - 16 * k) (L := L) (k := k) (S := S) (fa := fa) (fb := fb) (fc := fc) (H := H) (H1 := if H < 32 then H else H - 64) st X T hdp hun k0 rfl rfl
    (top_iff pa) (top_iff pb) ⟨A.1, B.1, C.1, A.2.1, B.2.1, C.2.1, ?j1⟩ ⟨A.1, B.1, C.1, A.2.2.1, B.2.2.1, C.2.2.1, ?j2⟩ q1 q2 q3 q4 q5 ?i8 q6 q7 ?i11 A.2.2.2.1 B.2.2.2.1 C.2.2.2.1 (fun q => div_fall a1.1 a1.2 k1 q) (fun q => div_fall a2.1 a2.2 k1 q) (fun q => div_fall a3.1 a3.2 k1 q) A.2.2.2.2 B.2.2.2.2
    (fun q => sub_64 a3 a2 (a6 q)) (fun _ => div_192 ?l2) (fun _ => mod_32n rfl ⟨h1, h2⟩) (add_64 (by decide) a1) (fun q => sub_n64 (n := 64) (by decide) a1 a3 (a7 q)) (div_192 ?m3) (mod_32 ⟨h1, h2⟩) (add_64 (by decide) a2) (fun q => sub_n64 (n := 128) (by decide) a2 a1 (a8 q)) ?_
  case j1 => exact a4.imp (top_of pa) (Or.imp (top_of pb) (top_of pc))
  case j2 => exact a5.imp (low_of pa) (Or.imp (low_of pb) (low_of pc))
  case l2 => clear A B C a1 a2 a3 a4 a5 a6 a7 a8 pa pb pc; split <;> omega
  case m3 => exact ⟨Int.le_trans (by decide) h1, Int.le_of_lt h2⟩
  case i8 =>
    intro q
    have e := lo q.2
    have hL : 0 < L := by
      rcases Int.lt_or_eq_of_le h3 with c | c
      · exact c
      · rw [← c, Int.mul_zero] at e; exact absurd e (Int.ne_of_gt q.1)
    have k1' := k1
    rw [e] at k1' ⊢
    exact div_SL h5 h6 hL h4 k1'
  case i11 =>
    intro q
    have e := hi q.2
    have hL : 0 < 16 - L := by
      rcases Int.lt_or_eq_of_le h4 with c | c
      · exact Int.sub_pos_of_lt c
      · rw [c] at e; exact absurd (e.trans (Int.mul_zero S)) (Int.ne_of_gt q.1)
    have k1' := k1
    rw [e] at k1' ⊢
    have f : 4096 - 256 * L = 256 * (16 - L) := by omega
    rw [f]
    exact div_SL h5 h6 hL (by omega) k1'
  intro q t h' tk' ta tb tc hb hn hq hnz
  refine hret q t h' tk' ta tb tc hb hn ?_ hnz
  simp only [← k2]
  exact hq
end Mine
end
section
open PySem PySem.W PyProof.Rows PySem.Spec PySem.Calls
set_option Elab.async false
namespace Mine
theorem fill_lhls : hd.heap_1 = hd.heap_1 ∧ PySem.Challenge.rw_pg0177_01 = PySem.Challenge.rw_pg0177_01 := by k_fill; exact ⟨rfl, rfl⟩
set_option pp.maxSteps 400
set_option pp.deepTerms.threshold 6
set_option linter.unusedVariables false
set_option maxRecDepth 100000 in
set_option maxHeartbeats 8000000 in
theorem lhls {p : Program} {loose : List Str} {mean : ExcName → Option Value} {mg mb : Str → Option Value} {w : World}
    {dp un : Nat} {fr : List Env} {gd : Option (List Code)} {s : Shared} {Q E : Value → Shared → Prop} {g : Heap}
    {col : Addr} {H L S : Int} {t1 t2 t3 : Tok} {n : Nat}
    (st : g.StaysIn s.heap) (X : (hd.heap_1 w.params).In g) (T : Top p loose mean mg mb g)
    (hdp : dp + 6 < recursionLimit) (hun : un + 60 < cLine)
    (h1 : 0 ≤ H) (h2 : H < 64) (h3 : 0 ≤ L) (h4 : L ≤ 16) (h5 : 0 ≤ S) (h6 : S ≤ 8)
    (hc : s.heap.get? col = some (tupO [.int (partP H L S 0) t1, .int (partP H L S 64) t2, .int (partP H L S 128) t3] n))
    (d1 : DivIs (partP H L S 0) 2048 (partP H L S 0)) (d2 : DivIs (partP H L S 64) 2048 (partP H L S 64)) (d3 : DivIs (partP H L S 128) 2048 (partP H L S 128))
    (hret : ∀ q t h' tk' ta tb tc, But [] s.heap h' → s.heap.get? q = none → h'.get? q = some (tupO [.float (fq (if S * L * (16 - L) = 0 then 0 else 32 * H)) ta, .float (fq (128 * L)) tb, .float (fq (if S * L * (16 - L) = 0 then 0 else 256 * S)) tc] t) → (ta ≠ 0 ∧ tb ≠ 0 ∧ tc ≠ 0) → Q (.ref q) { s with heap := h', toks := tk' }) :
    wpAny (model PySem.Challenge.pw_pg0177_01 w) (arnd dp un fr gd) (call (.ref 118) [.ref col] []) Q E s := by
  w_top off
  k_with_none
  k_with "binaryOp Div int int" => refine wIDiv (by assumption) ?_
  k_with "call ref" => ((with_reducible show wpAny _ _ (call (Value.ref 21) _ _) _ _ _); (rename News _ _ _ _ => N'); (rename Fr _ _ _ _ => F'); refine hlsSpot (Fr.keep F') (by assumption) (by assumption) (by dsimp only [arnd, Around.deeper]; first | exact room2 (by assumption) (by decide) | omega) (by dsimp only [arnd, Around.deeper]; first | exact room2 (by assumption) (by decide) | omega) (by assumption) (by assumption) (by assumption) (by assumption) (by assumption) (by assumption) ?_; intro q' t' h' tk' ta' tb' tc' hb' hn' hq' hnz'; (replace N' := News.more F' (News.pure N' hb') hn' hq'); (replace F' := Fr.pure F' hb'); clear hb' hn' hq'; (try dsimp only))
  refine' entered (args := ⟨[.ref col], []⟩) (ob := []) ?k8 st X T ?kO ?k6 ?k7 ?k9 ?kB ?_ ?c2 ?c3 ?c4 ?c5
  case k8 => exact room0 hdp
  case kO => exact (fun _ q => nomatch q)
  case k6 => k_is
  case k7 => k_is
  case k9 => first | exact BindsTo.of_eq rfl | exact binds_K (X.keeps st) rfl (by k_is) rfl rfl rfl
  case kB => exact locs rfl
  case c2 => exact rfl
  case c3 => exact rfl
  case c4 => exact rfl
  case c5 => decide
  intro g' L' h' hz eL hS hO X' T' F' N'
  clear X T st
  dsimp only
  k_fold
  have hc' : IsTup g' col #[.int (partP H L S 0) t1, .int (partP H L S 64) t2, .int (partP H L S 128) t3] := ⟨_, hS _ _ (by simp) hc, rfl, n, rfl⟩
  k_steps
  rename News _ _ _ _ => N
  rename Fr _ _ _ _ => F
  exact hret _ _ _ _ _ _ _ (But.ofFr F hz hS) (notOld hS (N _ (List.Mem.head _)).2.2 (by simp)) (N _ (List.Mem.head _)).1 (by assumption)
end Mine
end
section
open PySem PySem.W PyProof.Rows PySem.Spec PySem.Calls
set_option linter.unusedVariables false
namespace Mine
/-- a drawn colour: hue, lightness, saturation -/
structure Spot where
  h : Int
  l : Int
  s : Int
deriving DecidableEq
def Spot.ok (x : Spot) : Prop := 0 ≤ x.h ∧ x.h < 64 ∧ 0 ≤ x.l ∧ x.l ≤ 16 ∧ 0 ≤ x.s ∧ x.s ≤ 8
/-- its three figures -/
noncomputable def Spot.p0 (x : Spot) : Int := partP x.h x.l x.s 0
noncomputable def Spot.p1 (x : Spot) : Int := partP x.h x.l x.s 64
noncomputable def Spot.p2 (x : Spot) : Int := partP x.h x.l x.s 128
/-- a tuple of three ints, and of a colour's figures -/
def IsTri (h : Heap) (a : Addr) (x y z : Int) : Prop := ∃ t1 t2 t3 n, h.get? a = some (tupO [.int x t1, .int y t2, .int z t3] n)
def IsCol (h : Heap) (a : Addr) (x : Spot) : Prop := IsTri h a x.p0 x.p1 x.p2
theorem IsTri.keeps {h h' : Heap} {a : Addr} {x y z : Int} (i : IsTri h a x y z) (k : ∀ o, h.get? a = some o → h'.get? a = some o) : IsTri h' a x y z := let ⟨t1, t2, t3, n, e⟩ := i; ⟨t1, t2, t3, n, k _ e⟩
theorem part_range {x : Spot} (ok : x.ok) (c : Int) (hc : 0 ≤ fallP x.h c ∧ fallP x.h c ≤ 32) : 0 ≤ partP x.h x.l x.s c ∧ partP x.h x.l x.s c ≤ 2048 := by
  obtain ⟨h1, h2, h3, h4, h5, h6⟩ := ok
  rw [part_span]
  obtain ⟨k0, k1, _⟩ := span_range h3 h4 h5 h6
  have m := mul_32 k0 hc.1 hc.2
  have e : spanP x.l x.s ≤ 8 * x.l ∧ spanP x.l x.s ≤ 8 * (16 - x.l) := by
    rcases Int.lt_or_le 8 x.l with c | c
    · rw [span_hi c]
      have : x.s * (16 - x.l) ≤ 8 * (16 - x.l) := Int.mul_le_mul_of_nonneg_right h6 (by omega)
      omega
    · rw [span_lo c]
      have : x.s * x.l ≤ 8 * x.l := Int.mul_le_mul_of_nonneg_right h6 h3
      omega
  omega
theorem Spot.range {x : Spot} (ok : x.ok) : (0 ≤ x.p0 ∧ x.p0 ≤ 2048) ∧ (0 ≤ x.p1 ∧ x.p1 ≤ 2048) ∧ (0 ≤ x.p2 ∧ x.p2 ≤ 2048) := by
  obtain ⟨a1, a2, a3, _⟩ := hue_ok ok.1 ok.2.1
  exact ⟨part_range ok _ a1, part_range ok _ a2, part_range ok _ a3⟩
theorem div_self {n : Int} (h : 0 ≤ n ∧ n ≤ 2048) : DivIs n 2048 n := ⟨rfl, ⟨by omega, by omega⟩, ⟨by omega, by omega⟩, ⟨by omega, by omega⟩, by omega⟩
/-- what rgb_to_hls is to say of a colour -/
noncomputable def Spot.hq (x : Spot) : Int := if x.s * x.l * (16 - x.l) = 0 then 0 else 32 * x.h
noncomputable def Spot.sq (x : Spot) : Int := if x.s * x.l * (16 - x.l) = 0 then 0 else 256 * x.s
theorem colHls {p : Program} {loose : List Str} {mean : ExcName → Option Value} {mg mb : Str → Option Value} {w : World}
    {dp un : Nat} {fr : List Env} {gd : Option (List Code)} {s : Shared} {Q E : Value → Shared → Prop} {g : Heap} {col : Addr} (x : Spot)
    (st : g.StaysIn s.heap) (X : (hd.heap_1 w.params).In g) (T : Top p loose mean mg mb g) (hdp : dp + 6 < recursionLimit) (hun : un + 60 < cLine)
    (ok : x.ok) (hc : IsCol s.heap col x)
    (hret : ∀ q t h' tk' ta tb tc, But [] s.heap h' → s.heap.get? q = none → h'.get? q = some (tupO [.float (fq x.hq) ta, .float (fq (128 * x.l)) tb, .float (fq x.sq) tc] t) → Q (.ref q) { s with heap := h', toks := tk' }) :
    wpAny (model PySem.Challenge.pw_pg0177_01 w) (arnd dp un fr gd) (call (.ref 118) [.ref col] []) Q E s := by
  obtain ⟨t1, t2, t3, n, e⟩ := hc
  have r := Spot.range ok
  exact lhls st X T hdp hun ok.1 ok.2.1 ok.2.2.1 ok.2.2.2.1 ok.2.2.2.2.1 ok.2.2.2.2.2 e (div_self r.1) (div_self r.2.1) (div_self r.2.2) fun q t h' tk' ta tb tc b n o _ => hret q t h' tk' ta tb tc b n o
end Mine
end
section
open PySem PySem.W PyProof.Rows PySem.Spec PySem.Calls
set_option Elab.async false
namespace Mine
theorem fill_lawOver : hd.heap_1 = hd.heap_1 ∧ PySem.Challenge.rw_pg0177_01 = PySem.Challenge.rw_pg0177_01 := by k_fill; exact ⟨rfl, rfl⟩
set_option pp.maxSteps 400
set_option pp.deepTerms.threshold 6
set_option linter.unusedVariables false
set_option maxRecDepth 100000 in
set_option maxHeartbeats 8000000 in
theorem lawOver {p : Program} {loose : List Str} {mean : ExcName → Option Value} {mg mb : Str → Option Value} {w : World}
    {dp un : Nat} {fr : List Env} {gd : Option (List Code)} {s : Shared} {Q E : Value → Shared → Prop} {g : Heap}
    {sp : Addr} {x : Spot} {t1 t2 t3 : Tok} {n : Nat}
    (st : g.StaysIn s.heap) (X : (hd.heap_1 w.params).In g) (T : Top p loose mean mg mb g)
    (hdp : dp + 3 < recursionLimit) (hun : un + 30 < cLine)
    (ok : x.ok) (hc : s.heap.get? sp = some (tupO [.int x.h t1, .int x.l t2, .int x.s t3] n))
    (hret : ∀ q t h' tk' ta tb tc, But [] s.heap h' → s.heap.get? q = none → h'.get? q = some (tupO [.int ((x.h + 32).fmod 64) ta, .int (16 - x.l) tb, .int x.s tc] t) → Q (.ref q) { s with heap := h', toks := tk' }) :
    wpAny (model PySem.Challenge.pw_pg0177_01 w) (arnd dp un fr gd) (call (.ref 144) [.ref sp] []) Q E s := by
  w_top off
  k_with_none
  refine' entered (args := ⟨[.ref sp], []⟩) (ob := []) ?k8 st X T ?kO ?k6 ?k7 ?k9 ?kB ?_ ?c2 ?c3 ?c4 ?c5
  case k8 => exact room0 hdp
  case kO => exact (fun _ q => nomatch q)
  case k6 => k_is
  case k7 => k_is
  case k9 => first | exact BindsTo.of_eq rfl | exact binds_K (X.keeps st) rfl (by k_is) rfl rfl rfl
  case kB => exact locs rfl
  case c2 => exact rfl
  case c3 => exact rfl
  case c4 => exact rfl
  case c5 => decide
  intro g' L' h' hz eL hS hO X' T' F' N'
  clear X T st
  try dsimp only
  show wpAny _ _ _ _ _ _
  k_fold
  have hc' : IsTup g' sp #[.int x.h t1, .int x.l t2, .int x.s t3] := ⟨_, hS _ _ (by simp) hc, rfl, n, rfl⟩
  obtain ⟨h1, h2, h3, h4, h5, h6⟩ := ok
  k_steps
  rename News _ _ _ _ => N
  rename Fr _ _ _ _ => F
  exact hret _ _ _ _ _ _ _ (But.ofFr F hz hS) (notOld hS (N _ (List.Mem.head _)).2.2 (by simp)) (N _ (List.Mem.head _)).1
end Mine
end
section
open PySem PySem.W PyProof.Rows PySem.Spec PySem.Calls
set_option Elab.async false
namespace Mine
theorem fill_light : hd.heap_1 = hd.heap_1 ∧ PySem.Challenge.rw_pg0177_01 = PySem.Challenge.rw_pg0177_01 := by k_fill; exact ⟨rfl, rfl⟩
set_option pp.maxSteps 400
set_option pp.deepTerms.threshold 6
set_option linter.unusedVariables false
set_option maxRecDepth 100000 in
set_option maxHeartbeats 8000000 in
theorem light {p : Program} {loose : List Str} {mean : ExcName → Option Value} {mg mb : Str → Option Value} {w : World}
    {dp un : Nat} {fr : List Env} {gd : Option (List Code)} {s : Shared} {Q E : Value → Shared → Prop} {g : Heap}
    {col : Addr} {x : Spot}
    (st : g.StaysIn s.heap) (X : (hd.heap_1 w.params).In g) (T : Top p loose mean mg mb g)
    (hdp : dp + 7 < recursionLimit) (hun : un + 70 < cLine)
    (ok : x.ok) (hc : IsCol s.heap col x)
    (hret : ∀ t h' tk', But [] s.heap h' → Q (.float (fq (128 * x.l)) t) { s with heap := h', toks := tk' }) :
    wpAny (model PySem.Challenge.pw_pg0177_01 w) (arnd dp un fr gd) (call (.ref 125) [.ref col] []) Q E s := by
  w_top off
  k_with_none
  k_with "call ref" => ((with_reducible show wpAny _ _ (call (Value.ref 118) _ _) _ _ _); (rename News _ _ _ _ => N'); (rename Fr _ _ _ _ => F'); refine colHls _ (Fr.keep F') (by assumption) (by assumption) (by dsimp only [arnd, Around.deeper]; first | exact room2 (by assumption) (by decide) | omega) (by dsimp only [arnd, Around.deeper]; first | exact room2 (by assumption) (by decide) | omega) (by assumption) (IsTri.keeps (by assumption) (fun _ e => Fr.keep F' _ _ e)) ?_; intro q' t' h' tk' ta' tb' tc' hb' hn' hq'; (replace N' := News.more F' (News.pure N' hb') hn' hq'); (replace F' := Fr.pure F' hb'); clear hb' hn' hq'; (try dsimp only))
  refine' entered (args := ⟨[.ref col], []⟩) (ob := []) ?k8 st X T ?kO ?k6 ?k7 ?k9 ?kB ?_ ?c2 ?c3 ?c4 ?c5
  case k8 => exact room0 hdp
  case kO => exact (fun _ q => nomatch q)
  case k6 => k_is
  case k7 => k_is
  case k9 => first | exact BindsTo.of_eq rfl | exact binds_K (X.keeps st) rfl (by k_is) rfl rfl rfl
  case kB => exact locs rfl
  case c2 => exact rfl
  case c3 => exact rfl
  case c4 => exact rfl
  case c5 => decide
  intro g' L' h' hz eL hS hO X' T' F' N'
  clear X T st
  dsimp only
  k_fold
  have hc' : IsCol g' col x := hc.keeps (fun o e => hS _ _ (by simp) e)
  k_steps
  rename News _ _ _ _ => N
  rename Fr _ _ _ _ => F
  exact hret _ _ _ (But.ofFr F hz hS)
end Mine
end
section
open PySem PySem.W PyProof.Rows PySem.Spec PySem.Calls
set_option linter.unusedVariables false
namespace Mine
/-- a frame's names, some of them told -/
noncomputable def nm : List (Str × Value) → (Str → Option Value) → Str → Option Value
  | [], m => m
  | p :: r, m => fun y => if y = p.1 then some p.2 else nm r m y
theorem nm_same : ∀ {l : List (Str × Value)} {m : Str → Option Value}, (∀ p ∈ l, m p.1 = some p.2) → nm l m = m
  | [], _, _ => rfl
  | p :: r, m, h => by
    funext y
    show (if y = p.1 then some p.2 else nm r m y) = m y
    rw [nm_same fun q hq => h q (.tail _ hq)]
    by_cases c : y = p.1
    · rw [if_pos c, c, h p (.head _)]
    · rw [if_neg c]
theorem Fr.named {g h : Heap} {L : Addr} {m : Str → Option Value} (l : List (Str × Value)) (F : Fr g L h m) (hl : ∀ p ∈ l, m p.1 = some p.2) : Fr g L h (nm l m) := by rw [nm_same hl]; exact F
/-- refs of colours -/
noncomputable def ColsAre (h : Heap) : List Value → List Spot → Prop
  | [], [] => True
  | .ref a :: vs, x :: xs => x.ok ∧ IsCol h a x ∧ ColsAre h vs xs
  | _, _ => False
theorem ColsAre.length {h : Heap} : ∀ {vs : List Value} {xs : List Spot}, ColsAre h vs xs → vs.length = xs.length
  | [], [], _ => rfl
  | .ref a :: vs, x :: xs, c => by rw [List.length_cons, List.length_cons, ColsAre.length c.2.2]
theorem ColsAre.get {h : Heap} : ∀ {vs : List Value} {xs : List Spot}, ColsAre h vs xs → ∀ i (hi : i < xs.length), ∃ a, vs[i]? = some (.ref a) ∧ IsCol h a xs[i] ∧ (xs[i]).ok
  | [], [], _, _, hi => absurd hi (Nat.not_lt_zero _)
  | .ref a :: vs, x :: xs, c, 0, _ => ⟨a, rfl, c.2.1, c.1⟩
  | .ref a :: vs, x :: xs, c, i + 1, hi => by
    obtain ⟨b, e, q⟩ := ColsAre.get c.2.2 i (by simpa using hi)
    exact ⟨b, by simpa using e, by simpa using q⟩
theorem ColsAre.keeps {h h' : Heap} : ∀ {vs : List Value} {xs : List Spot}, ColsAre h vs xs → (∀ a x, .ref a ∈ vs → IsCol h a x → IsCol h' a x) → ColsAre h' vs xs
  | [], [], _, _ => trivial
  | .ref a :: vs, x :: xs, c, k => ⟨c.1, k a x (.head _) c.2.1, ColsAre.keeps c.2.2 fun b y hb => k b y (.tail _ hb)⟩
/-- an item of a list of colours -/
theorem item_col {prog : Program} {w : World} {A : Around} {E : Value → Shared → Prop} {s : Shared} {value slice : PySem.Expr} {l : Addr} {vs : List Value} {xs : List Spot} {k : Int} {u : Tok} {Q : Value → Shared → Prop} {g : Heap} {L : Addr} {m : Str → Option Value}
    (F : Fr g L s.heap m) (hl : g.IsList l vs.toArray) (hc : ColsAre g vs xs) (h0 : 0 ≤ k) (hk : k < xs.length) (hz : (xs.length : Int) < 2 ^ 60)
    (h : ∀ a, IsCol g a (xs.getD k.toNat ⟨0, 0, 0⟩) → (xs.getD k.toNat ⟨0, 0, 0⟩).ok → Q (.ref a) s)
    (hs : subscripted slice false (.ref l) (.int k u) = operate [.ref l, .int k u] (getItem (.ref l) (.int k u)) := by with_unfolding_all rfl) :
    wpAny (model prog w) A (subscriptTail value slice (.ref l) (.int k u)) Q E s := by
  obtain ⟨a, e, c, o⟩ := hc.get k.toNat (by omega)
  have q : xs.getD k.toNat ⟨0, 0, 0⟩ = xs[k.toNat]'(by omega) := by rw [List.getD_eq_getElem?_getD, List.getElem?_eq_getElem (by omega)]; rfl
  exact item_litK (stays_list F.keep hl) h0 (by omega) e (h a (q ▸ c) (q ▸ o)) hs
theorem len_at {prog : Program} {w : World} {A : Around} {E : Value → Shared → Prop} {s : Shared} {l : Addr} {vs : List Value} {Q : Value → Shared → Prop} {g : Heap} {L : Addr} {m : Str → Option Value}
    (F : Fr g L s.heap m) (hl : g.IsList l vs.toArray) (hz : (vs.length : Int) < 2 ^ 62) (h : Q (.int vs.length (s.toks + 1)) { s with toks := s.toks + 1 + 1 }) : wpAny (model prog w) A (call (.builtin "len") [.ref l]) Q E s :=
  len_list (stays_list F.keep hl) (by rw [List.size_toArray]; omega) (by rw [List.size_toArray]; exact h)
/-- a place where the walk is to stop -/
def Stopped (P : Prop) : Prop := P
theorem stop_here {P : Prop} (h : Stopped P) : P := h
theorem stop_out {P : Prop} (h : P) : Stopped P := h
/-- what the frame's names hold -/
def Told (l : List (Str × Value)) (m : Str → Option Value) : Prop := ∀ p ∈ l, m p.1 = some p.2
theorem told_nil {m : Str → Option Value} : Told [] m := fun _ h => nomatch h
theorem told_cons {m : Str → Option Value} {x : Str} {v : Value} {l : List (Str × Value)} (h : m x = some v) (r : Told l m) : Told ((x, v) :: l) m := fun p hp => by
  rcases List.mem_cons.mp hp with rfl | hp
  · exact h
  · exact r p hp
theorem fdiv2 (a : Int) : a.fdiv 2 = a / 2 := Int.fdiv_eq_ediv_of_nonneg _ (by decide)
theorem cmpOk {a b : Int} (h1 : -1000000 < a) (h2 : a < 1000000) (h3 : -1000000 < b) (h4 : b < 1000000) : CmpOk a b := ⟨⟨h1, h2⟩, ⟨h3, h4⟩⟩
theorem while_next {h₀ : Heap} {L : Addr} {s : Shared} {J : Nat → (Str → Option Value) → List (Addr × Obj) → Prop} {Q : Flow → Shared → Prop} {n n' tk : Nat} {h' : Heap} {m₂ : Str → Option Value} {news₂ : List (Addr × Obj)}
    (F : Fr h₀ L h' m₂) (N : News h₀ L h' news₂) (hn : n' < n) (hJ : J n' m₂ news₂) : WhileStep2 h₀ L s J Q n .next { s with heap := h', toks := tk } := ⟨h', tk, m₂, news₂, n', rfl, F, N, hn, hJ⟩
theorem bound_of {x : Spot} (ok : x.ok) : 0 ≤ x.l ∧ x.l ≤ 16 := ⟨ok.2.2.1, ok.2.2.2.1⟩
section
variable {xs : List Spot} {lo hi c n : Int} {k : Nat} {Y : Int}
theorem md (h : lo < hi) : lo ≤ (lo + hi).fdiv 2 ∧ (lo + hi).fdiv 2 < hi := by rw [fdiv2]; omega
theorem md_a (hk : k = (hi - lo).toNat) (h : lo < hi) : (hi - ((lo + hi).fdiv 2 + 1)).toNat < k := by
  obtain ⟨a, b⟩ := md h
  generalize (lo + hi).fdiv 2 = m at a b
  omega
theorem md_d (hk : k = (hi - lo).toNat) (h : lo < hi) : ((lo + hi).fdiv 2 - lo).toNat < k := by
  obtain ⟨a, b⟩ := md h
  generalize (lo + hi).fdiv 2 = m at a b
  omega
theorem md_b (hc : c ≤ lo) (h : lo < hi) : c ≤ (lo + hi).fdiv 2 + 1 := Int.le_trans hc (Int.le_trans (md h).1 (Int.le_add_one (Int.le_refl _)))
theorem md_c (h : lo < hi) : (lo + hi).fdiv 2 + 1 ≤ hi := (md h).2
theorem md_f (h : lo < hi) (hn : hi ≤ n) : (lo + hi).fdiv 2 ≤ n := Int.le_trans (Int.le_of_lt (md h).2) hn
theorem md_g (hc : c ≤ lo) (h : lo < hi) : c ≤ (lo + hi).fdiv 2 := Int.le_trans hc (md h).1
theorem md_h (h : lo < hi) (hn : hi ≤ n) : (lo + hi).fdiv 2 < n := Int.lt_of_lt_of_le (md h).2 hn
theorem md_low (mono : ∀ i j : Nat, i ≤ j → j < xs.length → (xs.getD i ⟨0, 0, 0⟩).l ≤ (xs.getD j ⟨0, 0, 0⟩).l) (h0 : 0 ≤ lo) (h : lo < hi) (hn : hi ≤ xs.length) (i : Nat) (q : (i : Int) < (lo + hi).fdiv 2 + 1) :
    (xs.getD i ⟨0, 0, 0⟩).l ≤ (xs.getD ((lo + hi).fdiv 2).toNat ⟨0, 0, 0⟩).l := by
  have a := md_g h0 h
  have b := md_h h hn
  generalize (lo + hi).fdiv 2 = m at a b q
  clear hn h h0
  exact mono _ _ (by omega) (by omega)
theorem md_high (mono : ∀ i j : Nat, i ≤ j → j < xs.length → (xs.getD i ⟨0, 0, 0⟩).l ≤ (xs.getD j ⟨0, 0, 0⟩).l) (h0 : 0 ≤ lo) (h : lo < hi) (i : Nat) (q : (lo + hi).fdiv 2 ≤ (i : Int)) (hi' : i < xs.length) :
    (xs.getD ((lo + hi).fdiv 2).toNat ⟨0, 0, 0⟩).l ≤ (xs.getD i ⟨0, 0, 0⟩).l := mono _ _ (Int.toNat_le.mpr q) hi'
theorem md_lt (mono : ∀ i j : Nat, i ≤ j → j < xs.length → (xs.getD i ⟨0, 0, 0⟩).l ≤ (xs.getD j ⟨0, 0, 0⟩).l) (h0 : 0 ≤ lo) (h : lo < hi) (hn : hi ≤ xs.length) (hm : 128 * (xs.getD ((lo + hi).fdiv 2).toNat ⟨0, 0, 0⟩).l < 128 * Y) :
    ∀ i : Nat, (i : Int) < (lo + hi).fdiv 2 + 1 → c ≤ (i : Int) → (xs.getD i ⟨0, 0, 0⟩).l < Y := fun i q _ => Int.lt_of_le_of_lt (md_low mono h0 h hn i q) (Int.lt_of_mul_lt_mul_left hm (by decide))
theorem md_le (mono : ∀ i j : Nat, i ≤ j → j < xs.length → (xs.getD i ⟨0, 0, 0⟩).l ≤ (xs.getD j ⟨0, 0, 0⟩).l) (h0 : 0 ≤ lo) (h : lo < hi) (hn : hi ≤ xs.length) (hm : ¬ 128 * Y < 128 * (xs.getD ((lo + hi).fdiv 2).toNat ⟨0, 0, 0⟩).l) :
    ∀ i : Nat, (i : Int) < (lo + hi).fdiv 2 + 1 → c ≤ (i : Int) → (xs.getD i ⟨0, 0, 0⟩).l ≤ Y := fun i q _ => Int.le_trans (md_low mono h0 h hn i q) (Int.le_of_mul_le_mul_left (Int.not_lt.mp hm) (by decide))
theorem md_ge (mono : ∀ i j : Nat, i ≤ j → j < xs.length → (xs.getD i ⟨0, 0, 0⟩).l ≤ (xs.getD j ⟨0, 0, 0⟩).l) (h0 : 0 ≤ lo) (h : lo < hi) (hm : ¬ 128 * (xs.getD ((lo + hi).fdiv 2).toNat ⟨0, 0, 0⟩).l < 128 * Y) :
    ∀ i : Nat, (lo + hi).fdiv 2 ≤ (i : Int) → i < xs.length → Y ≤ (xs.getD i ⟨0, 0, 0⟩).l := fun i q q2 => Int.le_trans (Int.le_of_mul_le_mul_left (Int.not_lt.mp hm) (by decide)) (md_high mono h0 h i q q2)
theorem md_gt (mono : ∀ i j : Nat, i ≤ j → j < xs.length → (xs.getD i ⟨0, 0, 0⟩).l ≤ (xs.getD j ⟨0, 0, 0⟩).l) (h0 : 0 ≤ lo) (h : lo < hi) (hm : 128 * Y < 128 * (xs.getD ((lo + hi).fdiv 2).toNat ⟨0, 0, 0⟩).l) :
    ∀ i : Nat, (lo + hi).fdiv 2 ≤ (i : Int) → i < xs.length → Y < (xs.getD i ⟨0, 0, 0⟩).l := fun i q q2 => Int.lt_of_lt_of_le (Int.lt_of_mul_lt_mul_left hm (by decide)) (md_high mono h0 h i q q2)
end
end Mine
end
section
open PySem PySem.W PyProof.Rows PySem.Spec PySem.Calls
set_option Elab.async false
namespace Mine
theorem fill_bisL3 : hd.heap_1 = hd.heap_1 ∧ PySem.Challenge.rw_pg0177_01 = PySem.Challenge.rw_pg0177_01 := by k_fill; exact ⟨rfl, rfl⟩
set_option pp.maxSteps 400
set_option pp.deepTerms.threshold 6
set_option linter.unusedVariables false
set_option maxRecDepth 100000 in
set_option maxHeartbeats 8000000 in
theorem bisL3 {p : Program} {loose : List Str} {mean : ExcName → Option Value} {mg mb : Str → Option Value} {w : World}
    {dp un : Nat} {fr : List Env} {gd : Option (List Code)} {s : Shared} {Q E : Value → Shared → Prop} {g : Heap}
    {row : Addr} {Y lo : Int} {ta tb : Tok} {vs : List Value} {xs : List Spot} {n : Nat}
    (st : g.StaysIn s.heap) (X : (hd.heap_1 w.params).In g) (T : Top p loose mean mg mb g)
    (hdp : dp + 8 < recursionLimit) (hun : un + 80 < cLine)
    (h0 : 0 ≤ lo) (hlo : lo ≤ xs.length) (hY0 : 0 ≤ Y) (hY1 : Y ≤ 30) (hz64 : (xs.length : Int) < 2 ^ 60)
    (hrow : s.heap.get? row = some (lstO vs n)) (hc : ColsAre s.heap vs xs)
    (mono : ∀ i j : Nat, i ≤ j → j < xs.length → (xs.getD i ⟨0, 0, 0⟩).l ≤ (xs.getD j ⟨0, 0, 0⟩).l)
    (hret : ∀ r t h' tk', But [] s.heap h' → lo ≤ r → r ≤ xs.length → (∀ i : Nat, (i : Int) < r → lo ≤ (i : Int) → (xs.getD i ⟨0, 0, 0⟩).l < Y) → (∀ i : Nat, r ≤ (i : Int) → i < xs.length → Y ≤ (xs.getD i ⟨0, 0, 0⟩).l) → Q (.int r t) { s with heap := h', toks := tk' }) :
    wpAny (model PySem.Challenge.pw_pg0177_01 w) (arnd dp un fr gd) (call (.ref 57) [.ref row, .float (fq (128 * Y)) ta, .int lo tb] [(Str.ofString "key", .ref 125)]) Q E s := by
  w_top off
  k_with_none
  k_with "storeName" => (k_here; (with_reducible first | refine tok_int ?_ | refine tok_int2 ?_ | refine tok_str ?_ | refine tok_float ?_); intro tk')
  k_with "execs cons" => k_fold
  k_with "call ref" => ((with_reducible show wpAny _ _ (call (Value.ref 125) _ _) _ _ _); (rename News _ _ _ _ => N'); (rename Fr _ _ _ _ => F'); refine light (Fr.keep F') (by assumption) (by assumption) (by dsimp only [arnd, Around.deeper]; first | exact room2 (by assumption) (by decide) | omega) (by dsimp only [arnd, Around.deeper]; first | exact room2 (by assumption) (by decide) | omega) (by assumption) (IsTri.keeps (by assumption) (fun _ e => Fr.keep F' _ _ e)) ?_; intro t' h' tk' hb'; (replace N' := News.pure N' hb'); (replace F' := Fr.pure F' hb'); clear hb'; (try dsimp only))
  k_with "compareOp Lt float float" => (have hb1 := bound_of (by assumption); refine wLt (cmpOk (by omega) (by omega) (by omega) (by omega)) ?_; clear hb1)
  k_with "subscriptTail" => ((with_reducible show wpAny _ _ (subscriptTail _ _ (Value.ref _) (Value.int _ _)) _ _ _); (rename Fr _ _ _ _ => F'); with_unfolding_all refine' item_col F' (by assumption) (by assumption) ?k1 ?k2 ?k3 ?_ ?k5; (case k1 => with_reducible exact md_g hp (by assumption)); (case k2 => with_reducible exact md_h (by assumption) hlo3); (case k3 => exact hz60); (case k5 => with_unfolding_all rfl); intro a' c' o')
  k_with "call builtin:len" => ((with_reducible show wpAny _ _ (call (Value.builtin _) [Value.ref _]) _ _ _); (rename Fr _ _ _ _ => F'); refine len_at F' (by assumption) (by omega) ?_)
  k_with "exec While Compare cons nil" => refine stop_here ?_
  refine' entered (args := ⟨[.ref row, .float (fq (128 * Y)) ta, .int lo tb], [(Str.ofString "key", .ref 125)]⟩) (ob := []) ?k8 st X T ?kO ?k6 ?k7 ?k9 ?kB ?_ ?c2 ?c3 ?c4 ?c5
  case k8 => exact room0 hdp
  case kO => exact (fun _ q => nomatch q)
  case k6 => k_is
  case k7 => k_is
  case k9 => first | exact BindsTo.of_eq rfl | exact binds_K (X.keeps st) rfl (by k_is) rfl rfl rfl
  case kB => exact locs rfl
  case c2 => exact rfl
  case c3 => exact rfl
  case c4 => exact rfl
  case c5 => decide
  intro g' L' h' hz eL hS hO X' T' F' N'
  clear X T st
  dsimp only
  k_fold
  have hl : g'.IsList row vs.toArray := ⟨_, hS _ _ (by simp) hrow, rfl, n, rfl⟩
  have hc' : ColsAre g' vs xs := hc.keeps fun a x _ i => IsTri.keeps i (fun o e => hS _ _ (by simp) e)
  have hvl : vs.length = xs.length := hc.length
  have hz60 : (xs.length : Int) < 2 ^ 60 := hz64
  k_steps
  refine stop_out ?_
  rename News _ _ _ _ => N
  rename Fr _ _ _ _ => F
  let Inv1 : Nat → (Str → Option Value) → List (Addr × Obj) → Prop := fun k m nx => nx = [] ∧ ∃ (lo' hi' : Int) (t1 t2 : Tok), Told ([(Str.ofString "a", Value.ref row), (Str.ofString "x", .float (fq (128 * Y)) ta), (Str.ofString "lo", .int lo' t1), (Str.ofString "hi", .int hi' t2), (Str.ofString "key", .ref 125)] : List (Str × Value)) m ∧
    k = (hi' - lo').toNat ∧ lo ≤ lo' ∧ lo' ≤ hi' ∧ hi' ≤ xs.length ∧ (∀ i : Nat, (i : Int) < lo' → lo ≤ (i : Int) → (xs.getD i ⟨0, 0, 0⟩).l < Y) ∧ (∀ i : Nat, hi' ≤ (i : Int) → i < xs.length → Y ≤ (xs.getD i ⟨0, 0, 0⟩).l)
  refine While_inv2 (n₀ := ((vs.length : Int) - lo).toNat) Inv1 F N ⟨rfl, _, _, _, _, told_cons rfl (told_cons rfl (told_cons rfl (told_cons rfl (told_cons rfl told_nil)))), rfl, Int.le_refl _, by omega, by omega, fun i h1 h2 => absurd h1 (by omega), fun i h1 h2 => absurd h1 (by omega)⟩ ?turn
  rintro k m₁ nx h₁ tk₁ F₁ N₁ ⟨rfl, lo', hi', t1, t2, hm, hk, hlo1, hlo2, hlo3, hw1, hw2⟩
  replace F₁ := Fr.named _ F₁ hm
  dsimp only [nm] at F₁
  clear F N
  have hp : 0 ≤ lo' := Int.le_trans h0 hlo1
  k_steps
  all_goals rename News _ _ _ _ => N
  all_goals rename Fr _ _ _ _ => F
  · refine while_next F N (n' := (hi' - ((lo' + hi').fdiv 2 + 1)).toNat) ?_ ⟨rfl, _, _, _, _, told_cons rfl (told_cons rfl (told_cons rfl (told_cons rfl (told_cons rfl told_nil)))), rfl, ?_, ?_, ?_, ?_, ?_⟩
    all_goals first
      | with_reducible exact md_a hk (by assumption)
      | with_reducible exact md_d hk (by assumption)
      | with_reducible assumption
      | with_reducible exact md_c (by assumption)
      | with_reducible exact md_b hlo1 (by assumption)
      | with_reducible exact (md (by assumption)).1
      | with_reducible exact md_f (by assumption) hlo3
      | with_reducible exact md_lt mono hp (by assumption) hlo3 (by assumption)
      | with_reducible exact md_le mono hp (by assumption) hlo3 (by assumption)
      | with_reducible exact md_ge mono hp (by assumption) (by assumption)
      | with_reducible exact md_gt mono hp (by assumption) (by assumption)
  · refine while_next F N (n' := ((lo' + hi').fdiv 2 - lo').toNat) ?_ ⟨rfl, _, _, _, _, told_cons rfl (told_cons rfl (told_cons rfl (told_cons rfl (told_cons rfl told_nil)))), rfl, ?_, ?_, ?_, ?_, ?_⟩
    all_goals first
      | with_reducible exact md_a hk (by assumption)
      | with_reducible exact md_d hk (by assumption)
      | with_reducible assumption
      | with_reducible exact md_c (by assumption)
      | with_reducible exact md_b hlo1 (by assumption)
      | with_reducible exact (md (by assumption)).1
      | with_reducible exact md_f (by assumption) hlo3
      | with_reducible exact md_lt mono hp (by assumption) hlo3 (by assumption)
      | with_reducible exact md_le mono hp (by assumption) hlo3 (by assumption)
      | with_reducible exact md_ge mono hp (by assumption) (by assumption)
      | with_reducible exact md_gt mono hp (by assumption) (by assumption)
  · have he : lo' = hi' := Int.le_antisymm hlo2 (Int.not_lt.mp (by assumption))
    subst he
    exact hret _ _ _ _ (But.ofFr F hz hS) hlo1 hlo3 hw1 hw2
end Mine
end
section
open PySem PySem.W PyProof.Rows PySem.Spec PySem.Calls
set_option Elab.async false
namespace Mine
theorem fill_bisL2 : hd.heap_1 = hd.heap_1 ∧ PySem.Challenge.rw_pg0177_01 = PySem.Challenge.rw_pg0177_01 := by k_fill; exact ⟨rfl, rfl⟩
set_option pp.maxSteps 400
set_option pp.deepTerms.threshold 6
set_option linter.unusedVariables false
set_option maxRecDepth 100000 in
set_option maxHeartbeats 8000000 in
theorem bisL2 {p : Program} {loose : List Str} {mean : ExcName → Option Value} {mg mb : Str → Option Value} {w : World}
    {dp un : Nat} {fr : List Env} {gd : Option (List Code)} {s : Shared} {Q E : Value → Shared → Prop} {g : Heap}
    {row : Addr} {Y : Int} {ta tb : Tok} {vs : List Value} {xs : List Spot} {n : Nat}
    (st : g.StaysIn s.heap) (X : (hd.heap_1 w.params).In g) (T : Top p loose mean mg mb g)
    (hdp : dp + 8 < recursionLimit) (hun : un + 80 < cLine)
    (hY0 : 0 ≤ Y) (hY1 : Y ≤ 30) (hz64 : (xs.length : Int) < 2 ^ 60)
    (hrow : s.heap.get? row = some (lstO vs n)) (hc : ColsAre s.heap vs xs)
    (mono : ∀ i j : Nat, i ≤ j → j < xs.length → (xs.getD i ⟨0, 0, 0⟩).l ≤ (xs.getD j ⟨0, 0, 0⟩).l)
    (hret : ∀ r t h' tk', But [] s.heap h' → (0 : Int) ≤ r → r ≤ xs.length → (∀ i : Nat, (i : Int) < r → (0 : Int) ≤ (i : Int) → (xs.getD i ⟨0, 0, 0⟩).l < Y) → (∀ i : Nat, r ≤ (i : Int) → i < xs.length → Y ≤ (xs.getD i ⟨0, 0, 0⟩).l) → Q (.int r t) { s with heap := h', toks := tk' }) :
    wpAny (model PySem.Challenge.pw_pg0177_01 w) (arnd dp un fr gd) (call (.ref 57) [.ref row, .float (fq (128 * Y)) ta] [(Str.ofString "key", .ref 125)]) Q E s := by
  w_top off
  k_with_none
  k_with "storeName" => (k_here; (with_reducible first | refine tok_int ?_ | refine tok_int2 ?_ | refine tok_str ?_ | refine tok_float ?_); intro tk')
  k_with "execs cons" => k_fold
  k_with "call ref" => ((with_reducible show wpAny _ _ (call (Value.ref 125) _ _) _ _ _); (rename News _ _ _ _ => N'); (rename Fr _ _ _ _ => F'); refine light (Fr.keep F') (by assumption) (by assumption) (by dsimp only [arnd, Around.deeper]; first | exact room2 (by assumption) (by decide) | omega) (by dsimp only [arnd, Around.deeper]; first | exact room2 (by assumption) (by decide) | omega) (by assumption) (IsTri.keeps (by assumption) (fun _ e => Fr.keep F' _ _ e)) ?_; intro t' h' tk' hb'; (replace N' := News.pure N' hb'); (replace F' := Fr.pure F' hb'); clear hb'; (try dsimp only))
  k_with "compareOp Lt float float" => (have hb1 := bound_of (by assumption); refine wLt (cmpOk (by omega) (by omega) (by omega) (by omega)) ?_; clear hb1)
  k_with "subscriptTail" => ((with_reducible show wpAny _ _ (subscriptTail _ _ (Value.ref _) (Value.int _ _)) _ _ _); (rename Fr _ _ _ _ => F'); with_unfolding_all refine' item_col F' (by assumption) (by assumption) ?k1 ?k2 ?k3 ?_ ?k5; (case k1 => with_reducible exact md_g hp (by assumption)); (case k2 => with_reducible exact md_h (by assumption) hlo3); (case k3 => exact hz60); (case k5 => with_unfolding_all rfl); intro a' c' o')
  k_with "call builtin:len" => ((with_reducible show wpAny _ _ (call (Value.builtin _) [Value.ref _]) _ _ _); (rename Fr _ _ _ _ => F'); refine len_at F' (by assumption) (by omega) ?_)
  k_with "exec While Compare cons nil" => refine stop_here ?_
  refine' entered (args := ⟨[.ref row, .float (fq (128 * Y)) ta], [(Str.ofString "key", .ref 125)]⟩) (ob := []) ?k8 st X T ?kO ?k6 ?k7 ?k9 ?kB ?_ ?c2 ?c3 ?c4 ?c5
  case k8 => exact room0 hdp
  case kO => exact (fun _ q => nomatch q)
  case k6 => k_is
  case k7 => k_is
  case k9 => first | exact BindsTo.of_eq rfl | exact binds_K (X.keeps st) rfl (by k_is) rfl rfl rfl
  case kB => exact locs rfl
  case c2 => exact rfl
  case c3 => exact rfl
  case c4 => exact rfl
  case c5 => decide
  intro g' L' h' hz eL hS hO X' T' F' N'
  clear X T st
  dsimp only
  k_fold
  have hl : g'.IsList row vs.toArray := ⟨_, hS _ _ (by simp) hrow, rfl, n, rfl⟩
  have hc' : ColsAre g' vs xs := hc.keeps fun a x _ i => IsTri.keeps i (fun o e => hS _ _ (by simp) e)
  have hvl : vs.length = xs.length := hc.length
  have hz60 : (xs.length : Int) < 2 ^ 60 := hz64
  k_steps
  refine stop_out ?_
  rename News _ _ _ _ => N
  rename Fr _ _ _ _ => F
  let Inv1 : Nat → (Str → Option Value) → List (Addr × Obj) → Prop := fun k m nx => nx = [] ∧ ∃ (lo' hi' : Int) (t1 t2 : Tok), Told ([(Str.ofString "a", Value.ref row), (Str.ofString "x", .float (fq (128 * Y)) ta), (Str.ofString "lo", .int lo' t1), (Str.ofString "hi", .int hi' t2), (Str.ofString "key", .ref 125)] : List (Str × Value)) m ∧
    k = (hi' - lo').toNat ∧ (0 : Int) ≤ lo' ∧ lo' ≤ hi' ∧ hi' ≤ xs.length ∧ (∀ i : Nat, (i : Int) < lo' → (0 : Int) ≤ (i : Int) → (xs.getD i ⟨0, 0, 0⟩).l < Y) ∧ (∀ i : Nat, hi' ≤ (i : Int) → i < xs.length → Y ≤ (xs.getD i ⟨0, 0, 0⟩).l)
  refine While_inv2 (n₀ := ((vs.length : Int) - (0 : Int)).toNat) Inv1 F N ⟨rfl, _, _, _, _, told_cons rfl (told_cons rfl (told_cons rfl (told_cons rfl (told_cons rfl told_nil)))), rfl, Int.le_refl _, by omega, by omega, fun i h1 h2 => absurd h1 (by omega), fun i h1 h2 => absurd h1 (by omega)⟩ ?turn
  rintro k m₁ nx h₁ tk₁ F₁ N₁ ⟨rfl, lo', hi', t1, t2, hm, hk, hlo1, hlo2, hlo3, hw1, hw2⟩
  replace F₁ := Fr.named _ F₁ hm
  dsimp only [nm] at F₁
  clear F N
  have hp : 0 ≤ lo' := hlo1
  k_steps
  all_goals rename News _ _ _ _ => N
  all_goals rename Fr _ _ _ _ => F
  · refine while_next F N (n' := (hi' - ((lo' + hi').fdiv 2 + 1)).toNat) ?_ ⟨rfl, _, _, _, _, told_cons rfl (told_cons rfl (told_cons rfl (told_cons rfl (told_cons rfl told_nil)))), rfl, ?_, ?_, ?_, ?_, ?_⟩
    all_goals first
      | with_reducible exact md_a hk (by assumption)
      | with_reducible exact md_d hk (by assumption)
      | with_reducible assumption
      | with_reducible exact md_c (by assumption)
      | with_reducible exact md_b hlo1 (by assumption)
      | with_reducible exact (md (by assumption)).1
      | with_reducible exact md_f (by assumption) hlo3
      | with_reducible exact md_lt mono hp (by assumption) hlo3 (by assumption)
      | with_reducible exact md_le mono hp (by assumption) hlo3 (by assumption)
      | with_reducible exact md_ge mono hp (by assumption) (by assumption)
      | with_reducible exact md_gt mono hp (by assumption) (by assumption)
  · refine while_next F N (n' := ((lo' + hi').fdiv 2 - lo').toNat) ?_ ⟨rfl, _, _, _, _, told_cons rfl (told_cons rfl (told_cons rfl (told_cons rfl (told_cons rfl told_nil)))), rfl, ?_, ?_, ?_, ?_, ?_⟩
    all_goals first
      | with_reducible exact md_a hk (by assumption)
      | with_reducible exact md_d hk (by assumption)
      | with_reducible assumption
      | with_reducible exact md_c (by assumption)
      | with_reducible exact md_b hlo1 (by assumption)
      | with_reducible exact (md (by assumption)).1
      | with_reducible exact md_f (by assumption) hlo3
      | with_reducible exact md_lt mono hp (by assumption) hlo3 (by assumption)
      | with_reducible exact md_le mono hp (by assumption) hlo3 (by assumption)
      | with_reducible exact md_ge mono hp (by assumption) (by assumption)
      | with_reducible exact md_gt mono hp (by assumption) (by assumption)
  · have he : lo' = hi' := Int.le_antisymm hlo2 (Int.not_lt.mp (by assumption))
    subst he
    exact hret _ _ _ _ (But.ofFr F hz hS) hlo1 hlo3 hw1 hw2
end Mine
end
section
open PySem PySem.W PyProof.Rows PySem.Spec PySem.Calls
set_option Elab.async false
namespace Mine
theorem fill_bisL4 : hd.heap_1 = hd.heap_1 ∧ PySem.Challenge.rw_pg0177_01 = PySem.Challenge.rw_pg0177_01 := by k_fill; exact ⟨rfl, rfl⟩
set_option pp.maxSteps 400
set_option pp.deepTerms.threshold 6
set_option linter.unusedVariables false
set_option maxRecDepth 100000 in
set_option maxHeartbeats 8000000 in
theorem bisL4 {p : Program} {loose : List Str} {mean : ExcName → Option Value} {mg mb : Str → Option Value} {w : World}
    {dp un : Nat} {fr : List Env} {gd : Option (List Code)} {s : Shared} {Q E : Value → Shared → Prop} {g : Heap}
    {row : Addr} {Y lo : Int} {ta tb : Tok} {vs : List Value} {xs : List Spot} {n : Nat}
    (st : g.StaysIn s.heap) (X : (hd.heap_1 w.params).In g) (T : Top p loose mean mg mb g)
    (hdp : dp + 8 < recursionLimit) (hun : un + 80 < cLine)
    (h0 : 0 ≤ lo) (hlo : lo ≤ xs.length) (hY0 : 0 ≤ Y) (hY1 : Y ≤ 30) (hz64 : (xs.length : Int) < 2 ^ 60)
    (hrow : s.heap.get? row = some (lstO vs n)) (hc : ColsAre s.heap vs xs)
    (mono : ∀ i j : Nat, i ≤ j → j < xs.length → (xs.getD i ⟨0, 0, 0⟩).l ≤ (xs.getD j ⟨0, 0, 0⟩).l)
    (hret : ∀ r t h' tk', But [] s.heap h' → lo ≤ r → r ≤ xs.length → (∀ i : Nat, (i : Int) < r → lo ≤ (i : Int) → (xs.getD i ⟨0, 0, 0⟩).l < Y) → (∀ i : Nat, r ≤ (i : Int) → i < xs.length → Y ≤ (xs.getD i ⟨0, 0, 0⟩).l) → Q (.int r t) { s with heap := h', toks := tk' }) :
    wpAny (model PySem.Challenge.pw_pg0177_01 w) (arnd dp un fr gd) (call (.ref 57) [.ref row, .float (fq (128 * Y)) ta, .int lo tb, .none] [(Str.ofString "key", .ref 125)]) Q E s := by
  w_top off
  k_with_none
  k_with "storeName" => (k_here; (with_reducible first | refine tok_int ?_ | refine tok_int2 ?_ | refine tok_str ?_ | refine tok_float ?_); intro tk')
  k_with "execs cons" => k_fold
  k_with "call ref" => ((with_reducible show wpAny _ _ (call (Value.ref 125) _ _) _ _ _); (rename News _ _ _ _ => N'); (rename Fr _ _ _ _ => F'); refine light (Fr.keep F') (by assumption) (by assumption) (by dsimp only [arnd, Around.deeper]; first | exact room2 (by assumption) (by decide) | omega) (by dsimp only [arnd, Around.deeper]; first | exact room2 (by assumption) (by decide) | omega) (by assumption) (IsTri.keeps (by assumption) (fun _ e => Fr.keep F' _ _ e)) ?_; intro t' h' tk' hb'; (replace N' := News.pure N' hb'); (replace F' := Fr.pure F' hb'); clear hb'; (try dsimp only))
  k_with "compareOp Lt float float" => (have hb1 := bound_of (by assumption); refine wLt (cmpOk (by omega) (by omega) (by omega) (by omega)) ?_; clear hb1)
  k_with "subscriptTail" => ((with_reducible show wpAny _ _ (subscriptTail _ _ (Value.ref _) (Value.int _ _)) _ _ _); (rename Fr _ _ _ _ => F'); with_unfolding_all refine' item_col F' (by assumption) (by assumption) ?k1 ?k2 ?k3 ?_ ?k5; (case k1 => with_reducible exact md_g hp (by assumption)); (case k2 => with_reducible exact md_h (by assumption) hlo3); (case k3 => exact hz60); (case k5 => with_unfolding_all rfl); intro a' c' o')
  k_with "call builtin:len" => ((with_reducible show wpAny _ _ (call (Value.builtin _) [Value.ref _]) _ _ _); (rename Fr _ _ _ _ => F'); refine len_at F' (by assumption) (by omega) ?_)
  k_with "exec While Compare cons nil" => refine stop_here ?_
  refine' entered (args := ⟨[.ref row, .float (fq (128 * Y)) ta, .int lo tb, .none], [(Str.ofString "key", .ref 125)]⟩) (ob := []) ?k8 st X T ?kO ?k6 ?k7 ?k9 ?kB ?_ ?c2 ?c3 ?c4 ?c5
  case k8 => exact room0 hdp
  case kO => exact (fun _ q => nomatch q)
  case k6 => k_is
  case k7 => k_is
  case k9 => first | exact BindsTo.of_eq rfl | exact binds_K (X.keeps st) rfl (by k_is) rfl rfl rfl
  case kB => exact locs rfl
  case c2 => exact rfl
  case c3 => exact rfl
  case c4 => exact rfl
  case c5 => decide
  intro g' L' h' hz eL hS hO X' T' F' N'
  clear X T st
  dsimp only
  k_fold
  have hl : g'.IsList row vs.toArray := ⟨_, hS _ _ (by simp) hrow, rfl, n, rfl⟩
  have hc' : ColsAre g' vs xs := hc.keeps fun a x _ i => IsTri.keeps i (fun o e => hS _ _ (by simp) e)
  have hvl : vs.length = xs.length := hc.length
  have hz60 : (xs.length : Int) < 2 ^ 60 := hz64
  k_steps
  refine stop_out ?_
  rename News _ _ _ _ => N
  rename Fr _ _ _ _ => F
  let Inv1 : Nat → (Str → Option Value) → List (Addr × Obj) → Prop := fun k m nx => nx = [] ∧ ∃ (lo' hi' : Int) (t1 t2 : Tok), Told ([(Str.ofString "a", Value.ref row), (Str.ofString "x", .float (fq (128 * Y)) ta), (Str.ofString "lo", .int lo' t1), (Str.ofString "hi", .int hi' t2), (Str.ofString "key", .ref 125)] : List (Str × Value)) m ∧
    k = (hi' - lo').toNat ∧ lo ≤ lo' ∧ lo' ≤ hi' ∧ hi' ≤ xs.length ∧ (∀ i : Nat, (i : Int) < lo' → lo ≤ (i : Int) → (xs.getD i ⟨0, 0, 0⟩).l < Y) ∧ (∀ i : Nat, hi' ≤ (i : Int) → i < xs.length → Y ≤ (xs.getD i ⟨0, 0, 0⟩).l)
  refine While_inv2 (n₀ := ((vs.length : Int) - lo).toNat) Inv1 F N ⟨rfl, _, _, _, _, told_cons rfl (told_cons rfl (told_cons rfl (told_cons rfl (told_cons rfl told_nil)))), rfl, Int.le_refl _, by omega, by omega, fun i h1 h2 => absurd h1 (by omega), fun i h1 h2 => absurd h1 (by omega)⟩ ?turn
  rintro k m₁ nx h₁ tk₁ F₁ N₁ ⟨rfl, lo', hi', t1, t2, hm, hk, hlo1, hlo2, hlo3, hw1, hw2⟩
  replace F₁ := Fr.named _ F₁ hm
  dsimp only [nm] at F₁
  clear F N
  have hp : 0 ≤ lo' := Int.le_trans h0 hlo1
  k_steps
  all_goals rename News _ _ _ _ => N
  all_goals rename Fr _ _ _ _ => F
  · refine while_next F N (n' := (hi' - ((lo' + hi').fdiv 2 + 1)).toNat) ?_ ⟨rfl, _, _, _, _, told_cons rfl (told_cons rfl (told_cons rfl (told_cons rfl (told_cons rfl told_nil)))), rfl, ?_, ?_, ?_, ?_, ?_⟩
    all_goals first
      | with_reducible exact md_a hk (by assumption)
      | with_reducible exact md_d hk (by assumption)
      | with_reducible assumption
      | with_reducible exact md_c (by assumption)
      | with_reducible exact md_b hlo1 (by assumption)
      | with_reducible exact (md (by assumption)).1
      | with_reducible exact md_f (by assumption) hlo3
      | with_reducible exact md_lt mono hp (by assumption) hlo3 (by assumption)
      | with_reducible exact md_le mono hp (by assumption) hlo3 (by assumption)
      | with_reducible exact md_ge mono hp (by assumption) (by assumption)
      | with_reducible exact md_gt mono hp (by assumption) (by assumption)
  · refine while_next F N (n' := ((lo' + hi').fdiv 2 - lo').toNat) ?_ ⟨rfl, _, _, _, _, told_cons rfl (told_cons rfl (told_cons rfl (told_cons rfl (told_cons rfl told_nil)))), rfl, ?_, ?_, ?_, ?_, ?_⟩
    all_goals first
      | with_reducible exact md_a hk (by assumption)
      | with_reducible exact md_d hk (by assumption)
      | with_reducible assumption
      | with_reducible exact md_c (by assumption)
      | with_reducible exact md_b hlo1 (by assumption)
      | with_reducible exact (md (by assumption)).1
      | with_reducible exact md_f (by assumption) hlo3
      | with_reducible exact md_lt mono hp (by assumption) hlo3 (by assumption)
      | with_reducible exact md_le mono hp (by assumption) hlo3 (by assumption)
      | with_reducible exact md_ge mono hp (by assumption) (by assumption)
      | with_reducible exact md_gt mono hp (by assumption) (by assumption)
  · have he : lo' = hi' := Int.le_antisymm hlo2 (Int.not_lt.mp (by assumption))
    subst he
    exact hret _ _ _ _ (But.ofFr F hz hS) hlo1 hlo3 hw1 hw2
end Mine
end
section
open PySem PySem.W PyProof.Rows PySem.Spec PySem.Calls
set_option Elab.async false
namespace Mine
theorem fill_bisR4 : hd.heap_1 = hd.heap_1 ∧ PySem.Challenge.rw_pg0177_01 = PySem.Challenge.rw_pg0177_01 := by k_fill; exact ⟨rfl, rfl⟩
set_option pp.maxSteps 400
set_option pp.deepTerms.threshold 6
set_option linter.unusedVariables false
set_option maxRecDepth 100000 in
set_option maxHeartbeats 8000000 in
theorem bisR4 {p : Program} {loose : List Str} {mean : ExcName → Option Value} {mg mb : Str → Option Value} {w : World}
    {dp un : Nat} {fr : List Env} {gd : Option (List Code)} {s : Shared} {Q E : Value → Shared → Prop} {g : Heap}
    {row : Addr} {Y lo : Int} {ta tb : Tok} {vs : List Value} {xs : List Spot} {n : Nat}
    (st : g.StaysIn s.heap) (X : (hd.heap_1 w.params).In g) (T : Top p loose mean mg mb g)
    (hdp : dp + 8 < recursionLimit) (hun : un + 80 < cLine)
    (h0 : 0 ≤ lo) (hlo : lo ≤ xs.length) (hY0 : 0 ≤ Y) (hY1 : Y ≤ 30) (hz64 : (xs.length : Int) < 2 ^ 60)
    (hrow : s.heap.get? row = some (lstO vs n)) (hc : ColsAre s.heap vs xs)
    (mono : ∀ i j : Nat, i ≤ j → j < xs.length → (xs.getD i ⟨0, 0, 0⟩).l ≤ (xs.getD j ⟨0, 0, 0⟩).l)
    (hret : ∀ r t h' tk', But [] s.heap h' → lo ≤ r → r ≤ xs.length → (∀ i : Nat, (i : Int) < r → lo ≤ (i : Int) → (xs.getD i ⟨0, 0, 0⟩).l ≤ Y) → (∀ i : Nat, r ≤ (i : Int) → i < xs.length → Y < (xs.getD i ⟨0, 0, 0⟩).l) → Q (.int r t) { s with heap := h', toks := tk' }) :
    wpAny (model PySem.Challenge.pw_pg0177_01 w) (arnd dp un fr gd) (call (.ref 39) [.ref row, .float (fq (128 * Y)) ta, .int lo tb, .none] [(Str.ofString "key", .ref 125)]) Q E s := by
  w_top off
  k_with_none
  k_with "storeName" => (k_here; (with_reducible first | refine tok_int ?_ | refine tok_int2 ?_ | refine tok_str ?_ | refine tok_float ?_); intro tk')
  k_with "execs cons" => k_fold
  k_with "call ref" => ((with_reducible show wpAny _ _ (call (Value.ref 125) _ _) _ _ _); (rename News _ _ _ _ => N'); (rename Fr _ _ _ _ => F'); refine light (Fr.keep F') (by assumption) (by assumption) (by dsimp only [arnd, Around.deeper]; first | exact room2 (by assumption) (by decide) | omega) (by dsimp only [arnd, Around.deeper]; first | exact room2 (by assumption) (by decide) | omega) (by assumption) (IsTri.keeps (by assumption) (fun _ e => Fr.keep F' _ _ e)) ?_; intro t' h' tk' hb'; (replace N' := News.pure N' hb'); (replace F' := Fr.pure F' hb'); clear hb'; (try dsimp only))
  k_with "compareOp Lt float float" => (have hb1 := bound_of (by assumption); refine wLt (cmpOk (by omega) (by omega) (by omega) (by omega)) ?_; clear hb1)
  k_with "subscriptTail" => ((with_reducible show wpAny _ _ (subscriptTail _ _ (Value.ref _) (Value.int _ _)) _ _ _); (rename Fr _ _ _ _ => F'); with_unfolding_all refine' item_col F' (by assumption) (by assumption) ?k1 ?k2 ?k3 ?_ ?k5; (case k1 => with_reducible exact md_g hp (by assumption)); (case k2 => with_reducible exact md_h (by assumption) hlo3); (case k3 => exact hz60); (case k5 => with_unfolding_all rfl); intro a' c' o')
  k_with "call builtin:len" => ((with_reducible show wpAny _ _ (call (Value.builtin _) [Value.ref _]) _ _ _); (rename Fr _ _ _ _ => F'); refine len_at F' (by assumption) (by omega) ?_)
  k_with "exec While Compare cons nil" => refine stop_here ?_
  refine' entered (args := ⟨[.ref row, .float (fq (128 * Y)) ta, .int lo tb, .none], [(Str.ofString "key", .ref 125)]⟩) (ob := []) ?k8 st X T ?kO ?k6 ?k7 ?k9 ?kB ?_ ?c2 ?c3 ?c4 ?c5
  case k8 => exact room0 hdp
  case kO => exact (fun _ q => nomatch q)
  case k6 => k_is
  case k7 => k_is
  case k9 => first | exact BindsTo.of_eq rfl | exact binds_K (X.keeps st) rfl (by k_is) rfl rfl rfl
  case kB => exact locs rfl
  case c2 => exact rfl
  case c3 => exact rfl
  case c4 => exact rfl
  case c5 => decide
  intro g' L' h' hz eL hS hO X' T' F' N'
  clear X T st
  dsimp only
  k_fold
  have hl : g'.IsList row vs.toArray := ⟨_, hS _ _ (by simp) hrow, rfl, n, rfl⟩
  have hc' : ColsAre g' vs xs := hc.keeps fun a x _ i => IsTri.keeps i (fun o e => hS _ _ (by simp) e)
  have hvl : vs.length = xs.length := hc.length
  have hz60 : (xs.length : Int) < 2 ^ 60 := hz64
  k_steps
  refine stop_out ?_
  rename News _ _ _ _ => N
  rename Fr _ _ _ _ => F
  let Inv1 : Nat → (Str → Option Value) → List (Addr × Obj) → Prop := fun k m nx => nx = [] ∧ ∃ (lo' hi' : Int) (t1 t2 : Tok), Told ([(Str.ofString "a", Value.ref row), (Str.ofString "x", .float (fq (128 * Y)) ta), (Str.ofString "lo", .int lo' t1), (Str.ofString "hi", .int hi' t2), (Str.ofString "key", .ref 125)] : List (Str × Value)) m ∧
    k = (hi' - lo').toNat ∧ lo ≤ lo' ∧ lo' ≤ hi' ∧ hi' ≤ xs.length ∧ (∀ i : Nat, (i : Int) < lo' → lo ≤ (i : Int) → (xs.getD i ⟨0, 0, 0⟩).l ≤ Y) ∧ (∀ i : Nat, hi' ≤ (i : Int) → i < xs.length → Y < (xs.getD i ⟨0, 0, 0⟩).l)
  refine While_inv2 (n₀ := ((vs.length : Int) - lo).toNat) Inv1 F N ⟨rfl, _, _, _, _, told_cons rfl (told_cons rfl (told_cons rfl (told_cons rfl (told_cons rfl told_nil)))), rfl, Int.le_refl _, by omega, by omega, fun i h1 h2 => absurd h1 (by omega), fun i h1 h2 => absurd h1 (by omega)⟩ ?turn
  rintro k m₁ nx h₁ tk₁ F₁ N₁ ⟨rfl, lo', hi', t1, t2, hm, hk, hlo1, hlo2, hlo3, hw1, hw2⟩
  replace F₁ := Fr.named _ F₁ hm
  dsimp only [nm] at F₁
  clear F N
  have hp : 0 ≤ lo' := Int.le_trans h0 hlo1
  k_steps
  all_goals rename News _ _ _ _ => N
  all_goals rename Fr _ _ _ _ => F
  · refine while_next F N (n' := ((lo' + hi').fdiv 2 - lo').toNat) ?_ ⟨rfl, _, _, _, _, told_cons rfl (told_cons rfl (told_cons rfl (told_cons rfl (told_cons rfl told_nil)))), rfl, ?_, ?_, ?_, ?_, ?_⟩
    all_goals first
      | with_reducible exact md_a hk (by assumption)
      | with_reducible exact md_d hk (by assumption)
      | with_reducible assumption
      | with_reducible exact md_c (by assumption)
      | with_reducible exact md_b hlo1 (by assumption)
      | with_reducible exact (md (by assumption)).1
      | with_reducible exact md_f (by assumption) hlo3
      | with_reducible exact md_lt mono hp (by assumption) hlo3 (by assumption)
      | with_reducible exact md_le mono hp (by assumption) hlo3 (by assumption)
      | with_reducible exact md_ge mono hp (by assumption) (by assumption)
      | with_reducible exact md_gt mono hp (by assumption) (by assumption)
  · refine while_next F N (n' := (hi' - ((lo' + hi').fdiv 2 + 1)).toNat) ?_ ⟨rfl, _, _, _, _, told_cons rfl (told_cons rfl (told_cons rfl (told_cons rfl (told_cons rfl told_nil)))), rfl, ?_, ?_, ?_, ?_, ?_⟩
    all_goals first
      | with_reducible exact md_a hk (by assumption)
      | with_reducible exact md_d hk (by assumption)
      | with_reducible assumption
      | with_reducible exact md_c (by assumption)
      | with_reducible exact md_b hlo1 (by assumption)
      | with_reducible exact (md (by assumption)).1
      | with_reducible exact md_f (by assumption) hlo3
      | with_reducible exact md_lt mono hp (by assumption) hlo3 (by assumption)
      | with_reducible exact md_le mono hp (by assumption) hlo3 (by assumption)
      | with_reducible exact md_ge mono hp (by assumption) (by assumption)
      | with_reducible exact md_gt mono hp (by assumption) (by assumption)
  · have he : lo' = hi' := Int.le_antisymm hlo2 (Int.not_lt.mp (by assumption))
    subst he
    exact hret _ _ _ _ (But.ofFr F hz hS) hlo1 hlo3 hw1 hw2
end Mine
end
section
open PySem PySem.W PyProof.Rows PySem.Spec PySem.Calls
set_option Elab.async false
namespace Mine
theorem fill_insR : hd.heap_1 = hd.heap_1 ∧ PySem.Challenge.rw_pg0177_01 = PySem.Challenge.rw_pg0177_01 := by k_fill; exact ⟨rfl, rfl⟩
theorem fits_insR {x : Int} (h0 : 0 ≤ x) (h1 : x ≤ 1000) : Builtin.List.listFitsIndex x = true := by unfold Builtin.List.listFitsIndex; simp; omega
theorem room_insR {l : List Value} (h : l.length ≤ 1000) : l.toArray.toList.length ≤ sizeLine := Nat.le_trans h (by decide)
set_option pp.maxSteps 400
set_option pp.deepTerms.threshold 6
set_option linter.unusedVariables false
set_option maxRecDepth 100000 in
set_option maxHeartbeats 8000000 in
theorem insR {p : Program} {loose : List Str} {mean : ExcName → Option Value} {mg mb : Str → Option Value} {w : World}
    {dp un : Nat} {fr : List Env} {gd : Option (List Code)} {s : Shared} {Q E : Value → Shared → Prop} {g : Heap}
    {row col : Addr} {x : Spot} {vs : List Value} {xs : List Spot} {n : Nat}
    (st : g.StaysIn s.heap) (X : (hd.heap_1 w.params).In g) (T : Top p loose mean mg mb g)
    (hdp : dp + 10 < recursionLimit) (hun : un + 100 < cLine)
    (hz64 : xs.length ≤ 1000) (hrg : g.get? row = none)
    (hrow : s.heap.get? row = some (lstO vs n)) (hc : ColsAre s.heap vs xs) (ok : x.ok) (hx : IsCol s.heap col x)
    (mono : ∀ i j : Nat, i ≤ j → j < xs.length → (xs.getD i ⟨0, 0, 0⟩).l ≤ (xs.getD j ⟨0, 0, 0⟩).l)
    (hret : ∀ (r : Int) h' tk' n', But [row] s.heap h' → 0 ≤ r → r ≤ xs.length → (∀ i : Nat, (i : Int) < r → (xs.getD i ⟨0, 0, 0⟩).l ≤ x.l) → (∀ i : Nat, r ≤ (i : Int) → i < xs.length → x.l < (xs.getD i ⟨0, 0, 0⟩).l) → h'.get? row = some (lstO (vs.take r.toNat ++ .ref col :: vs.drop r.toNat) n') → Q .none { s with heap := h', toks := tk' }) :
    wpAny (model PySem.Challenge.pw_pg0177_01 w) (arnd dp un fr gd) (call (.ref 30) [.ref row, .ref col] [(Str.ofString "key", .ref 125)]) Q E s := by
  w_top off
  k_with_none
  k_with "call ref" => ((with_reducible show wpAny _ _ (call (Value.ref 125) _ _) _ _ _); (rename News _ _ _ _ => N'); (rename Fr _ _ _ _ => F'); refine light (Fr.keep F') (by assumption) (by assumption) (by dsimp only [arnd, Around.deeper]; first | exact room2 (by assumption) (by decide) | omega) (by dsimp only [arnd, Around.deeper]; first | exact room2 (by assumption) (by decide) | omega) (by assumption) (IsTri.keeps (by assumption) (fun _ e => Fr.keep F' _ _ e)) ?_; intro t' h' tk' hb'; (replace N' := News.pure N' hb'); (replace F' := Fr.pure F' hb'); clear hb'; (try dsimp only))
  k_with "call ref" => ((with_reducible show wpAny _ _ (call (Value.ref 39) _ _) _ _ _); (with_unfolding_all show wpAny _ _ (call _ _ [(Str.ofString "key", Value.ref 125)]) _ _ _); (rename News _ _ _ _ => N'); (rename Fr _ _ _ _ => F'); refine' bisR4 (Fr.keep F') (by assumption) (by assumption) ?a1 ?a2 ?a3 ?a4 ?a5 ?a6 ?a7 ?a8 ?a9 ?a10 ?_; (case a9 => exact ColsAre.keeps (by assumption) (fun _ _ _ i => IsTri.keeps i (fun _ e => Fr.keep F' _ _ e))); (case a8 => exact (N' _ (List.Mem.head _)).1); (case a10 => assumption); (case a1 => dsimp only [arnd, Around.deeper]; first | exact room2 (by assumption) (by decide) | omega); (case a2 => dsimp only [arnd, Around.deeper]; first | exact room2 (by assumption) (by decide) | omega); (case a3 => omega); (case a4 => omega); (case a5 => omega); (case a6 => omega); (case a7 => omega); intro r' t' h' tk' hb' hr1 hr2 hr3 hr4; (replace N' := News.pure N' hb'); (replace F' := Fr.pure F' hb'); clear hb'; (try dsimp only))
  k_with "call builtin:list.insert" => (k_here; (with_reducible show wpAny _ _ (call (Value.builtin _) [Value.ref _, Value.int _ _, _]) _ _ _); k_dflt (refine' kl_insert ?F ?N ?f ?e ?U ?z ?_; (case F => k_asm); (case N => k_asm); (case U => k_upd); (case f => exact fits_insR (by omega) (by omega)); (case e => exact rfl); (case z => exact room_insR (by omega))); intro h' F' N')
  refine' entered (args := ⟨[.ref row, .ref col], [(Str.ofString "key", .ref 125)]⟩) (ob := [(row, lstO vs n)]) ?k8 st X T ?kO ?k6 ?k7 ?k9 ?kB ?_ ?c2 ?c3 ?c4 ?c5
  case k8 => exact room0 hdp
  case kO => exact (by intro p hp; rcases List.mem_singleton.mp hp with rfl; exact ⟨hrow, hrg⟩)
  case k6 => k_is
  case k7 => k_is
  case k9 => first | exact BindsTo.of_eq rfl | exact binds_K (X.keeps st) rfl (by k_is) rfl rfl rfl
  case kB => exact locs rfl
  case c2 => exact rfl
  case c3 => exact rfl
  case c4 => exact rfl
  case c5 => decide
  intro g' L' h' hz eL hS hO X' T' F' N'
  clear X T st
  dsimp only
  k_fold
  have hne : ∀ {a : Addr} {y : Spot}, IsCol s.heap a y → IsCol g' a y := fun {a y} i => i.keeps fun o e => hS _ _ (by
    intro q
    have q : a = row := by simpa using q
    obtain ⟨_, _, _, _, i⟩ := i
    rw [q, hrow] at i
    have := congrArg (Option.map Obj.cls) i
    simp at this) e
  have hc' : ColsAre g' vs xs := hc.keeps fun a x _ i => hne i
  have hx' : IsCol g' col x := hne hx
  have hvl : vs.length = xs.length := hc.length
  have hb0 := bound_of ok
  k_steps
  rename News _ _ _ _ => N
  rename Fr _ _ _ _ => F
  refine hret r' _ _ (n + 1) (But.ofFr F hz hS) hr1 hr2 (fun i q => hr3 i q (by omega)) hr4 ?_
  have e : kl_ins vs.toArray.toList r' (.ref col) = vs.take r'.toNat ++ .ref col :: vs.drop r'.toNat := by
    show vs.take (if r' < 0 then _ else _) ++ _ :: vs.drop (if r' < 0 then _ else _) = _
    rw [if_neg (by omega)]
    have : min r'.toNat vs.toArray.toList.length = r'.toNat := Nat.min_eq_left (by show r'.toNat ≤ vs.length; omega)
    rw [this]
  rw [← e]
  exact (N _ (List.Mem.head _)).1
end Mine
end
section
open PySem PySem.W PyProof.Rows PySem.Spec PySem.Calls
set_option Elab.async false
namespace Mine
theorem fill_insL : hd.heap_1 = hd.heap_1 ∧ PySem.Challenge.rw_pg0177_01 = PySem.Challenge.rw_pg0177_01 := by k_fill; exact ⟨rfl, rfl⟩
theorem fits_insL {x : Int} (h0 : 0 ≤ x) (h1 : x ≤ 1000) : Builtin.List.listFitsIndex x = true := by unfold Builtin.List.listFitsIndex; simp; omega
theorem room_insL {l : List Value} (h : l.length ≤ 1000) : l.toArray.toList.length ≤ sizeLine := Nat.le_trans h (by decide)
set_option pp.maxSteps 400
set_option pp.deepTerms.threshold 6
set_option linter.unusedVariables false
set_option maxRecDepth 100000 in
set_option maxHeartbeats 8000000 in
theorem insL {p : Program} {loose : List Str} {mean : ExcName → Option Value} {mg mb : Str → Option Value} {w : World}
    {dp un : Nat} {fr : List Env} {gd : Option (List Code)} {s : Shared} {Q E : Value → Shared → Prop} {g : Heap}
    {row col : Addr} {x : Spot} {vs : List Value} {xs : List Spot} {n : Nat}
    (st : g.StaysIn s.heap) (X : (hd.heap_1 w.params).In g) (T : Top p loose mean mg mb g)
    (hdp : dp + 10 < recursionLimit) (hun : un + 100 < cLine)
    (hz64 : xs.length ≤ 1000) (hrg : g.get? row = none)
    (hrow : s.heap.get? row = some (lstO vs n)) (hc : ColsAre s.heap vs xs) (ok : x.ok) (hx : IsCol s.heap col x)
    (mono : ∀ i j : Nat, i ≤ j → j < xs.length → (xs.getD i ⟨0, 0, 0⟩).l ≤ (xs.getD j ⟨0, 0, 0⟩).l)
    (hret : ∀ (r : Int) h' tk' n', But [row] s.heap h' → 0 ≤ r → r ≤ xs.length → (∀ i : Nat, (i : Int) < r → (xs.getD i ⟨0, 0, 0⟩).l < x.l) → (∀ i : Nat, r ≤ (i : Int) → i < xs.length → x.l ≤ (xs.getD i ⟨0, 0, 0⟩).l) → h'.get? row = some (lstO (vs.take r.toNat ++ .ref col :: vs.drop r.toNat) n') → Q .none { s with heap := h', toks := tk' }) :
    wpAny (model PySem.Challenge.pw_pg0177_01 w) (arnd dp un fr gd) (call (.ref 48) [.ref row, .ref col] [(Str.ofString "key", .ref 125)]) Q E s := by
  w_top off
  k_with_none
  k_with "call ref" => ((with_reducible show wpAny _ _ (call (Value.ref 125) _ _) _ _ _); (rename News _ _ _ _ => N'); (rename Fr _ _ _ _ => F'); refine light (Fr.keep F') (by assumption) (by assumption) (by dsimp only [arnd, Around.deeper]; first | exact room2 (by assumption) (by decide) | omega) (by dsimp only [arnd, Around.deeper]; first | exact room2 (by assumption) (by decide) | omega) (by assumption) (IsTri.keeps (by assumption) (fun _ e => Fr.keep F' _ _ e)) ?_; intro t' h' tk' hb'; (replace N' := News.pure N' hb'); (replace F' := Fr.pure F' hb'); clear hb'; (try dsimp only))
  k_with "call ref" => ((with_reducible show wpAny _ _ (call (Value.ref 57) _ _) _ _ _); (with_unfolding_all show wpAny _ _ (call _ _ [(Str.ofString "key", Value.ref 125)]) _ _ _); (rename News _ _ _ _ => N'); (rename Fr _ _ _ _ => F'); refine' bisL4 (Fr.keep F') (by assumption) (by assumption) ?a1 ?a2 ?a3 ?a4 ?a5 ?a6 ?a7 ?a8 ?a9 ?a10 ?_; (case a9 => exact ColsAre.keeps (by assumption) (fun _ _ _ i => IsTri.keeps i (fun _ e => Fr.keep F' _ _ e))); (case a8 => exact (N' _ (List.Mem.head _)).1); (case a10 => assumption); (case a1 => dsimp only [arnd, Around.deeper]; first | exact room2 (by assumption) (by decide) | omega); (case a2 => dsimp only [arnd, Around.deeper]; first | exact room2 (by assumption) (by decide) | omega); (case a3 => omega); (case a4 => omega); (case a5 => omega); (case a6 => omega); (case a7 => omega); intro r' t' h' tk' hb' hr1 hr2 hr3 hr4; (replace N' := News.pure N' hb'); (replace F' := Fr.pure F' hb'); clear hb'; (try dsimp only))
  k_with "call builtin:list.insert" => (k_here; (with_reducible show wpAny _ _ (call (Value.builtin _) [Value.ref _, Value.int _ _, _]) _ _ _); k_dflt (refine' kl_insert ?F ?N ?f ?e ?U ?z ?_; (case F => k_asm); (case N => k_asm); (case U => k_upd); (case f => exact fits_insL (by omega) (by omega)); (case e => exact rfl); (case z => exact room_insL (by omega))); intro h' F' N')
  refine' entered (args := ⟨[.ref row, .ref col], [(Str.ofString "key", .ref 125)]⟩) (ob := [(row, lstO vs n)]) ?k8 st X T ?kO ?k6 ?k7 ?k9 ?kB ?_ ?c2 ?c3 ?c4 ?c5
  case k8 => exact room0 hdp
  case kO => exact (by intro p hp; rcases List.mem_singleton.mp hp with rfl; exact ⟨hrow, hrg⟩)
  case k6 => k_is
  case k7 => k_is
  case k9 => first | exact BindsTo.of_eq rfl | exact binds_K (X.keeps st) rfl (by k_is) rfl rfl rfl
  case kB => exact locs rfl
  case c2 => exact rfl
  case c3 => exact rfl
  case c4 => exact rfl
  case c5 => decide
  intro g' L' h' hz eL hS hO X' T' F' N'
  clear X T st
  dsimp only
  k_fold
  have hne : ∀ {a : Addr} {y : Spot}, IsCol s.heap a y → IsCol g' a y := fun {a y} i => i.keeps fun o e => hS _ _ (by
    intro q
    have q : a = row := by simpa using q
    obtain ⟨_, _, _, _, i⟩ := i
    rw [q, hrow] at i
    have := congrArg (Option.map Obj.cls) i
    simp at this) e
  have hc' : ColsAre g' vs xs := hc.keeps fun a x _ i => hne i
  have hx' : IsCol g' col x := hne hx
  have hvl : vs.length = xs.length := hc.length
  have hb0 := bound_of ok
  k_steps
  rename News _ _ _ _ => N
  rename Fr _ _ _ _ => F
  refine hret r' _ _ (n + 1) (But.ofFr F hz hS) hr1 hr2 (fun i q => hr3 i q (by omega)) hr4 ?_
  have e : kl_ins vs.toArray.toList r' (.ref col) = vs.take r'.toNat ++ .ref col :: vs.drop r'.toNat := by
    show vs.take (if r' < 0 then _ else _) ++ _ :: vs.drop (if r' < 0 then _ else _) = _
    rw [if_neg (by omega)]
    have : min r'.toNat vs.toArray.toList.length = r'.toNat := Nat.min_eq_left (by show r'.toNat ≤ vs.length; omega)
    rw [this]
  rw [← e]
  exact (N _ (List.Mem.head _)).1
end Mine
end
section
open PySem PySem.W PyProof.Rows PySem.Spec PySem.Calls
set_option linter.unusedVariables false
namespace Mine
/-- how a word is spelt -/
noncomputable def gapQ (g : Int) : List Nat := if g = 0 then [] else if g = 1 then [32] else if g = 2 then [9] else [10]
noncomputable def gapP (g : Int) : List Nat := if g = 0 then [32] else if g = 1 then [9] else if g = 2 then [13] else [10]
noncomputable def encW (l : List Nat) (d : Int) : List Nat :=
  if d.fmod 3 = 1 then 34 :: l ++ 34 :: gapQ ((d.fdiv 3).fmod 4)
  else if d.fmod 3 = 2 then l.flatMap (fun c => [92, c]) ++ gapP ((d.fdiv 3).fmod 4)
  else l ++ gapP ((d.fdiv 3).fmod 4)
section
variable {prog : Program} {w : World} {A : Around} {E : Value → Shared → Prop} {s s₁ : Shared} {g : Heap} {L : Addr} {m : Str → Option Value} {news : List (Addr × Obj)}
theorem strs_of : ∀ {vs ys : List Value} {cs : List Nat}, Paired (fun v r => ∃ (c : Nat) (u t : Tok), v = Value.str ⟨#[c]⟩ u ∧ r = Value.str ⟨#[92, c]⟩ t) vs ys → vs.length = cs.length → (∀ (j : Nat) (v : Value), vs[j]? = some v → ∃ (c : Nat) (u : Tok), cs[j]? = some c ∧ v = Value.str ⟨#[c]⟩ u) →
    StrsAre ys (cs.map fun c => (⟨#[92, c]⟩ : Str))
  | _, _, cs, .nil, hl, _ => by
    cases cs with
    | nil => exact .nil
    | cons => simp at hl
  | v :: vs, y :: ys, cs, .cons h t, hl, hP => by
    obtain ⟨c, u, t', rfl, rfl⟩ := h
    cases cs with
    | nil => simp at hl
    | cons c' cs =>
      obtain ⟨c₂, u₂, e, q⟩ := hP 0 _ rfl
      have : c = c' := by
        have h1 : c₂ = c' := by simpa using e.symm
        have h2 : c = c₂ := by
          have := q
          simp only [Value.str.injEq, Str.mk.injEq] at this
          simpa using this.1
        rw [h2, h1]
      subst this
      exact .cons _ t' (strs_of t (by simpa using hl) fun j v hv => hP (j + 1) v (by simpa using hv))
theorem src_esc {env : Env} {elt : Expr} {x : Str} {scope : Scope} {Q : Value → Shared → Prop} {y : Str} {t : Tok}
    (hh : A.handled = none) (F : Fr g L s₁.heap m) (N : News g L s₁.heap news)
    (hel : ∀ C c u s₂ m₂ E', s₂.heap.Ns (compEnv scope C env).locals m₂ → m₂ x = some (.str ⟨#[c]⟩ u) → wpAny (model prog w) A (eval elt (compEnv scope C env)) (fun r s₃ => (∃ t, r = .str ⟨#[92, c]⟩ t) ∧ Keeps s₂ s₃) E' s₂)
    (g3 : ∀ D (ys : List Value) h' tk, Fr g L h' m → News g L h' news → h'.IsList D ys.toArray → StrsAre ys (y.cps.toList.map fun c => (⟨#[92, c]⟩ : Str)) → Q (.ref D) { s₁ with heap := h', toks := tk }) (hsz : y.length ≤ sizeLine) :
    wpAny (model prog w) A (pyIter (.str y t)) (CompPost prog w A env scope x [] elt Q) E s₁ := by
  unfold CompPost
  refine wpAny_pyIter_str fun o St W hst => ?_
  have up : ∀ (h' : Heap), (∀ b o', b ∉ [s₁.heap.objs.size] → (s₁.heap.push o).get? b = some o' → h'.get? b = some o') → ∀ b o', s₁.heap.get? b = some o' → h'.get? b = some o' :=
    fun h' hk b o' e => hk b o' (old_not_new e) (Heap.get?_push_of_some _ e)
  refine ⟨fun _ => true, fun v r => ∃ (c : Nat) (u t : Tok), v = Value.str ⟨#[c]⟩ u ∧ r = Value.str ⟨#[92, c]⟩ t, s₁.heap.objs.size, [s₁.heap.objs.size], [s₁.heap.objs.size], y.cps.size, SignAt y, St, rfl, W A hh, hsz, hst, ?_, ⟨?_, ?_⟩, ?_⟩
  · intro b hb
    show b < (s₁.heap.push o).objs.size
    rw [Heap.size_push, List.mem_singleton.mp hb]
    exact Nat.lt_succ_self _
  · intro C i v s₃ m₃ E' hP hn hm _ htk
    exact wpAny_tests_nil ⟨rfl, _, _, rfl, fun _ _ e => e⟩
  · intro C i v s₃ m₃ E' hP hp hn hm _ htk
    obtain ⟨c, u, _, rfl⟩ := hP
    exact wpAny_mono (hel C c u s₃ m₃ E' hn hm) (fun r s₄ h₄ => ⟨⟨c, u, h₄.1.choose, rfl, h₄.1.choose_spec⟩, h₄.2⟩) fun _ _ e => e
  · intro D h' tk ys vs hnew hlD hplD hlen hP hF hk
    refine g3 D ys.toList h' tk (F.keeps (up h' hk)) (N.grown (up h' hk)) (by rw [Array.toArray_toList]; exact hlD) ?_
    have e : vs.filter (fun _ => true) = vs := List.filter_eq_self.mpr (by simp)
    rw [e] at hF
    exact strs_of hF (by rw [hlen, Array.length_toList]) fun j v hv => by
      obtain ⟨c, u, hc, q⟩ := hP j v hv
      exact ⟨c, u, by rw [Array.getElem?_toList]; exact hc, q⟩
theorem elt_esc {scope : Scope} {env : Env} {C : Addr} {c : Nat} {u : Tok} {m₂ : Str → Option Value} {x : Str} {p1 p2 p3 : Pos} {k : Nat} (hk : scope.kind = .function) (hl : scope.names.lookup x = some .local) (hd : (x == ("__debug__" : Str)) = false)
    (hn : s.heap.Ns (compEnv scope C env).locals m₂) (hm : m₂ x = some (.str ⟨#[c]⟩ u)) :
    wpAny (model prog w) A (eval (.BinOp (.Constant (.str (Str.ofString "\\")) k p1) .Add (.Name x p2) p3) (compEnv scope C env)) (fun r s₃ => (∃ t, r = .str ⟨#[92, c]⟩ t) ∧ Keeps s s₃) E s := by
  refine wpAny_BinOp (wpAny_Constant_str (wpAny_Name (wpAny_loadName_local hk hl hn hm ?_) hd))
  refine PyProof.Rows.add_str (fun t' tk => ⟨⟨t', ?_⟩, s.heap, tk, rfl, fun _ _ e => e⟩) ?_
  · have : (Str.ofString "\\" ++ (⟨#[c]⟩ : Str)) = ⟨#[92, c]⟩ := by
      have e : Str.ofString "\\" = ⟨#[92]⟩ := by decide +kernel
      rw [e]; rfl
    rw [this]
  · have e : Str.ofString "\\" = ⟨#[92]⟩ := by decide +kernel
    rw [e]; show 2 ≤ _; decide
theorem join_none : ∀ ts : List Str, (Str.join ⟨#[]⟩ ts).cps.toList = ts.flatMap fun t => t.cps.toList
  | [] => rfl
  | [t] => by
    show t.cps.toList = _
    simp
  | t :: u :: r => by
    rw [join_cons_cons, Str.cps_append, Str.cps_append, Array.toList_append, Array.toList_append, join_none (u :: r)]
    simp
theorem join_esc (cs : List Nat) : (Txt.join (Str.ofString "") (cs.map fun c => (⟨#[92, c]⟩ : Str))).cps.toList = cs.flatMap fun c => [92, c] := by
  have e : Str.ofString "" = ⟨#[]⟩ := by decide +kernel
  rw [e]
  show (Builtin.Str.glued _ _).cps.toList = _
  rw [StrLaws.glued_eq_join, join_none, List.flatMap_map]
theorem join_rule {D : Addr} {ys : List Value} {cs : List Nat} {t : Tok} {Q : Value → Shared → Prop} (hl : s.heap.IsList D ys.toArray) (hi : StrsAre ys (cs.map fun c => (⟨#[92, c]⟩ : Str))) (hz : cs.length ≤ 1000)
    (h : ∀ (r : Str) t' k, r.cps.toList = cs.flatMap (fun c => [92, c]) → r.length ≤ 2000 → Q (.str r t') { s with toks := k }) : wpAny (model prog w) A (call (.builtin "str.join") [.str (Str.ofString "") t, .ref D]) Q E s := by
  refine join_list (ys := cs.map fun c => (⟨#[92, c]⟩ : Str)) hl hi ?_ fun t' k => h _ t' k (join_esc cs) (by
    show Array.size _ ≤ _
    rw [← Array.length_toList, join_esc]
    have : ∀ l : List Nat, (l.flatMap fun c => [92, c]).length = 2 * l.length := fun l => by
      induction l with
      | nil => rfl
      | cons c r ih => rw [List.flatMap_cons, List.length_append, ih]; show 2 + _ = 2 * (r.length + 1); omega
    rw [this]; omega)
  have e : Str.ofString "" = ⟨#[]⟩ := by decide +kernel
  rw [e]
  show _ + _ * 0 ≤ _
  have : (List.map (fun x : Str => x.length) (List.map (fun c => (⟨#[92, c]⟩ : Str)) cs)).sum = 2 * cs.length := by
    clear hl hi h hz
    induction cs with
    | nil => rfl
    | cons c r ih =>
      simp only [List.map_cons, List.sum_cons, List.length_cons, ih]
      show 2 + _ = _
      omega
  rw [this]; omega
theorem item_gap {k : Int} (h0 : 0 ≤ k) (h4 : k < 4) : (Txt.item (Str.ofString " \t\r\n") k).cps.toList = gapP k := by
  have : k = 0 ∨ k = 1 ∨ k = 2 ∨ k = 3 := by omega
  rcases this with rfl | rfl | rfl | rfl <;> decide +kernel
theorem fmod4 (d : Int) : 0 ≤ d.fmod 4 ∧ d.fmod 4 < 4 := ⟨Int.fmod_nonneg_of_pos _ (by decide), Int.fmod_lt_of_pos _ (by decide)⟩
theorem enc_quote {x : Str} {d : Int} {gap : Str} {k : Int} (h1 : d.fmod 3 = 1) (h2 : (d.fdiv 3).fmod 4 = k) (h3 : gap.cps.toList = gapQ k) : (Str.ofString "\"" ++ x ++ Str.ofString "\"" ++ gap).cps.toList = encW x.cps.toList d := by
  have e : (Str.ofString "\"").cps = #[34] := by decide +kernel
  unfold encW
  rw [if_pos h1, h2]
  simp only [Str.cps_append, Array.toList_append, e, h3]
  simp
theorem enc_esc {x r : Str} {d : Int} (h1 : d.fmod 3 ≠ 1) (h2 : d.fmod 3 = 2) (hr : r.cps.toList = x.cps.toList.flatMap fun c => [92, c]) : (r ++ Txt.item (Str.ofString " \t\r\n") ((d.fdiv 3).fmod 4)).cps.toList = encW x.cps.toList d := by
  unfold encW
  rw [if_neg h1, if_pos h2, Str.cps_append, Array.toList_append, hr, item_gap (fmod4 _).1 (fmod4 _).2]
theorem enc_plain {x : Str} {d : Int} (h1 : d.fmod 3 ≠ 1) (h2 : d.fmod 3 ≠ 2) : (x ++ Txt.item (Str.ofString " \t\r\n") ((d.fdiv 3).fmod 4)).cps.toList = encW x.cps.toList d := by
  unfold encW
  rw [if_neg h1, if_neg h2, Str.cps_append, Array.toList_append, item_gap (fmod4 _).1 (fmod4 _).2]
end
end Mine
end
section
open PySem PySem.W PyProof.Rows PySem.Spec PySem.Calls
set_option Elab.async false
namespace Mine
theorem fill_word : hd.heap_1 = hd.heap_1 ∧ PySem.Challenge.rw_pg0177_01 = PySem.Challenge.rw_pg0177_01 := by k_fill; exact ⟨rfl, rfl⟩
set_option pp.maxSteps 400
set_option pp.deepTerms.threshold 6
set_option linter.unusedVariables false
set_option maxRecDepth 100000 in
set_option maxHeartbeats 8000000 in
theorem word {p : Program} {loose : List Str} {mean : ExcName → Option Value} {mg mb : Str → Option Value} {w : World}
    {dp un : Nat} {fr : List Env} {gd : Option (List Code)} {s : Shared} {Q E : Value → Shared → Prop} {g : Heap}
    {x : Str} {d : Int} {ta tb : Tok}
    (st : g.StaysIn s.heap) (X : (hd.heap_1 w.params).In g) (T : Top p loose mean mg mb g)
    (hdp : dp + 10 < recursionLimit) (hun : un + 100 < cLine)
    (h0 : 0 ≤ d) (hx : x.length ≤ 100) (hx2 : x.cps.toList.length ≤ 1000)
    (hret : ∀ (r : Str) t h' tk', But [] s.heap h' → r.cps.toList = encW x.cps.toList d → Q (.str r t) { s with heap := h', toks := tk' }) :
    wpAny (model PySem.Challenge.pw_pg0177_01 w) (arnd dp un fr gd) (call (.ref 111) [.str x ta, .int d tb] []) Q E s := by
  w_top off
  k_with_none
  k_with "storeName" => (k_here; (with_reducible first | refine tok_int ?_ | refine tok_int2 ?_ | refine tok_str ?_ | refine tok_float ?_); intro tk')
  k_with "execs cons" => k_fold
  k_with "pyIter str" => ((rename News _ _ _ _ => N'); (rename Fr _ _ _ _ => F'); (refine src_esc rfl F' N' (fun C c u s₂ m₂ E' hn hm => elt_esc rfl rfl (by decide) hn hm) ?_ (Nat.le_trans (by assumption) (by decide))); clear N'; intro _ _ _ _ F' N' hl' hi')
  k_with "last call builtin:str.join" => (refine join_rule (by assumption) (by assumption) (by assumption) ?_; intro _ _ _ _ _)
  refine' entered (args := ⟨[.str x ta, .int d tb], []⟩) (ob := []) ?k8 st X T ?kO ?k6 ?k7 ?k9 ?kB ?_ ?c2 ?c3 ?c4 ?c5
  case k8 => exact room0 hdp
  case kO => exact (fun _ q => nomatch q)
  case k6 => k_is
  case k7 => k_is
  case k9 => first | exact BindsTo.of_eq rfl | exact binds_K (X.keeps st) rfl (by k_is) rfl rfl rfl
  case kB => exact locs rfl
  case c2 => exact rfl
  case c3 => exact rfl
  case c4 => exact rfl
  case c5 => decide
  intro g' L' h' hz eL hS hO X' T' F' N'
  clear X T st
  dsimp only
  k_fold
  k_steps
  all_goals rename News _ _ _ _ => N
  all_goals rename Fr _ _ _ _ => F
  all_goals first
    | exact hret _ _ _ _ (But.ofFr F hz hS) (enc_quote (by assumption) (by assumption) (by decide +kernel))
    | exact hret _ _ _ _ (But.ofFr F hz hS) (enc_esc (by assumption) (by assumption) (by assumption))
    | exact hret _ _ _ _ (But.ofFr F hz hS) (enc_plain (by assumption) (by assumption))
end Mine
end
section
open PySem PySem.W PyProof.Rows PySem.Spec PySem.Calls
set_option Elab.async false
namespace Mine
theorem fill_init : hd.heap_1 = hd.heap_1 ∧ PySem.Challenge.rw_pg0177_01 = PySem.Challenge.rw_pg0177_01 := by k_fill; exact ⟨rfl, rfl⟩
/-- an entry of an object's dict -/
noncomputable abbrev ent (P : Params) (k : String) (t : Tok) (v : Value) : DictEntry := ⟨PyData.keyHash P (Str.ofString k), .str (Str.ofString k) t, v⟩
set_option pp.maxSteps 600
set_option pp.deepTerms.threshold 6
set_option linter.unusedVariables false
set_option maxRecDepth 100000 in
set_option maxHeartbeats 8000000 in
theorem init {p : Program} {loose : List Str} {mean : ExcName → Option Value} {mg mb : Str → Option Value} {w : World}
    {s : Shared} {Q E : Value → Shared → Prop} {g : Heap}
    {A : Around} {x dx : Addr} {v : Value}
    (st : g.StaysIn s.heap) (X : (hd.heap_1 w.params).In g) (T : Top p loose mean mg mb g)
    (hdp : A.depth + 10 < recursionLimit) (hun : A.units + 100 < cLine)
    (hxg : g.get? x = none) (hdg : g.get? dx = none) (hxd : dx < x) (hx : s.heap.get? x = some (instObj 95 dx)) (hd : s.heap.get? dx = some (dictOf [] 0))
    (hret : ∀ pb h' tk' t1 t2 t3 t4 t5 t6, But [x, dx] s.heap h' → s.heap.get? pb = none → x < pb → h'.get? x = some (instObj 95 dx) → h'.get? pb = some (lstO [] 0) →
      h'.get? dx = some (dictOf [ent w.params "lineno" t1 (.int 1 t2), ent w.params "instream" t3 v, ent w.params "whitespace" t4 (.str (Str.ofString "\n\t\r ") t5), ent w.params "pushback" t6 (.ref pb)] 4) → Q .none { s with heap := h', toks := tk' }) :
    codeAny (model PySem.Challenge.pw_pg0177_01 w) A (.call (.ref 71) ⟨[.ref x, v], []⟩) (fun r s' => match r with | .ok (.ret v) => Q v s' | .ok _ => False | .error e => E e s') s := by
  w_top off
  k_with_none
  have hob : ∀ p ∈ ([(x, instObj 95 dx), (dx, dictOf [] 0)] : List (Addr × Obj)), s.heap.get? p.1 = some p.2 ∧ g.get? p.1 = none := (by intro p hp; rcases List.mem_cons.mp hp with rfl | hp; exact ⟨hx, hxg⟩; rcases List.mem_singleton.mp hp with rfl; exact ⟨hd, hdg⟩)
  refine' enteredCode (args := ⟨[.ref x, v], []⟩) (ob := [(x, instObj 95 dx), (dx, dictOf [] 0)]) ?k8 st X T ?kO ?k6 ?k7 ?k9 ?kB ?_ ?c2 ?c3 ?c4 ?c5
  case k8 => omega
  case kO => exact hob
  case k6 => k_is
  case k7 => k_is
  case k9 => first | exact BindsTo.of_eq rfl | exact binds_K (X.keeps st) rfl (by k_is) rfl rfl rfl
  case kB => exact locs rfl
  case c2 => exact rfl
  case c3 => exact rfl
  case c4 => exact rfl
  case c5 => decide
  intro g' L' h' hz eL hS hO X' T' F' N'
  clear X T st
  try dsimp only
  show wpAny _ _ _ _ _ _
  k_fold
  replace hxd := ltN hxd
  k_steps
  rename News _ _ _ _ => N
  rename Fr _ _ _ _ => F
  refine hret _ _ _ _ _ _ _ _ _ (But.ofFr F hz hS) (notOld hS (N _ (List.Mem.head _)).2.2 ?_) ?_ (N _ (List.Mem.tail _ (List.Mem.head _))).1 (N _ (List.Mem.head _)).1 (N _ (List.Mem.tail _ (List.Mem.tail _ (List.Mem.head _)))).1
  rotate_left
  · refine ltN ?_; (try dsimp only); omega
  intro q
  have hp := (N _ (List.Mem.head _)).1
  rcases List.mem_cons.mp q with q | q
  · have hx' := (N (x, instObj 95 dx) (List.Mem.tail _ (List.Mem.head _))).1
    rw [show _ = x from q] at hp
    have := Option.some.inj (hp.symm.trans hx')
    have := congrArg Obj.cls this
    simp at this
  · have hx' := (N (dx, _) (List.Mem.tail _ (List.Mem.tail _ (List.Mem.head _)))).1
    rcases List.mem_cons.mp q with q | q
    case inr => cases q
    rw [show _ = dx from q] at hp
    have := Option.some.inj (hp.symm.trans hx')
    have := congrArg Obj.cls this
    simp at this
end Mine
end
section
open PySem PySem.W PyProof.Rows PySem.Spec PySem.Calls
set_option Elab.async false
set_option linter.unusedVariables false
namespace Mine
theorem fill_new : hd.heap_1 = hd.heap_1 ∧ PySem.Challenge.rw_pg0177_01 = PySem.Challenge.rw_pg0177_01 := by k_fill; exact ⟨rfl, rfl⟩
/-- a lexer's state: its dict -/
noncomputable abbrev lexD (P : Params) (t : Nat → Tok) (ln : Int) (fp ws pb : Value) (more : List DictEntry) (n : Nat) : Obj :=
  dictOf ([ent P "lineno" (t 1) (.int ln (t 2)), ent P "instream" (t 3) fp, ent P "whitespace" (t 4) ws, ent P "pushback" (t 6) pb] ++ more) n
set_option maxRecDepth 100000 in
set_option maxHeartbeats 8000000 in
/-- a new lexer -/
theorem lexNew {p : Program} {loose : List Str} {mean : ExcName → Option Value} {mg mb : Str → Option Value} {w : World} {A : Around} {s : Shared} {Q E : Value → Shared → Prop} {g : Heap} {v : Value}
    (st : g.StaysIn s.heap) (X : (hd.heap_1 w.params).In g) (T : Top p loose mean mg mb g) (hdp : A.depth + 12 < recursionLimit) (hun : A.units + 120 < cLine)
    (hret : ∀ x dx pb h' tk' t1 t2 t3 t4 t5 t6, But [] s.heap h' → s.heap.get? x = none → s.heap.get? dx = none → s.heap.get? pb = none → s.heap.objs.size ≤ dx → dx < x → x < pb →
      h'.get? x = some (instObj 95 dx) → h'.get? pb = some (lstO [] 0) →
      h'.get? dx = some (dictOf [ent w.params "lineno" t1 (.int 1 t2), ent w.params "instream" t3 v, ent w.params "whitespace" t4 (.str (Str.ofString "\n\t\r ") t5), ent w.params "pushback" t6 (.ref pb)] 4) → Q (.ref x) { s with heap := h', toks := tk' }) :
    wpAny (model PySem.Challenge.pw_pg0177_01 w) A (call (.ref 95) [v] []) Q E s := by
  refine wpAny_call ?_
  obtain ⟨hh, gg, d, t, os⟩ := s
  have Xs := X.keeps st
  have none_of : ∀ a, hh.objs.size ≤ a → hh.get? a = none := fun a ha => by
    cases e : hh.get? a with
    | none => rfl
    | some o' => exact absurd (Heap.lt_size e) (Nat.not_lt.mpr ha)
  have gnone : ∀ a, hh.objs.size ≤ a → g.get? a = none := fun a ha => by
    cases e : g.get? a with
    | none => rfl
    | some o' => have := st _ _ e; rw [show (Heap.get? _ a) = none from none_of a ha] at this; cases this
  have k : ∀ b o, hh.get? b = some o → ((hh.push emptyDict).push (instObj 95 hh.objs.size)).get? b = some o := fun b o e => Heap.get?_push_of_some _ (Heap.get?_push_of_some _ e)
  have hz : (hh.push emptyDict).objs.size = hh.objs.size + 1 := Heap.size_push ..
  have hx : ((hh.push emptyDict).push (instObj 95 hh.objs.size)).get? (hh.objs.size + 1) = some (instObj 95 hh.objs.size) := by rw [← hz]; exact Heap.get?_push_size _ rfl
  have hd : ((hh.push emptyDict).push (instObj 95 hh.objs.size)).get? hh.objs.size = some emptyDict := Heap.get?_push_of_some _ (Heap.get?_push_size _ rfl)
  have dep : (A.under (.builtin "type.__call__" ⟨.ref 95 :: [v], []⟩)).depth = A.depth + 1 := depth_under_kw A 95 [v] []
  have uni : (A.under (.builtin "type.__call__" ⟨.ref 95 :: [v], []⟩)).units = A.units + 1 := units_under_make A 95 [v]
  refine make_core (makes_of Xs (by k_is)) (looks_findIn Xs (r := some (.ref 71)) (by k_is)) (fun self => bind_fn Xs self (by k_is)) (.inl rfl) (codeAny_mono (init (g := g) (dx := hh.objs.size) (Q := fun v' s' => v' = .none ∧ Q (.ref (hh.objs.size + 1)) s') (E := E) (fun b o e => k b o (st b o e)) X T (by rw [dep]; omega) (by rw [uni]; omega) (gnone _ (Nat.le_succ _)) (gnone _ (Nat.le_refl _)) (Nat.lt_succ_self _) hx hd ?_) fun r s' z => ?_)
  · intro pb h' tk' t1 t2 t3 t4 t5 t6 hb hpb hlt hx' hpb' hdx'
    refine ⟨rfl, hret (hh.objs.size + 1) hh.objs.size pb h' tk' t1 t2 t3 t4 t5 t6 ⟨?_, ?_⟩ (none_of _ (Nat.le_succ _)) (none_of _ (Nat.le_refl _)) ?_ (Nat.le_refl _) (Nat.lt_succ_self _) hlt hx' hpb' hdx'⟩
    · have := hb.size
      rw [Heap.size_push, Heap.size_push] at this
      show hh.objs.size ≤ _
      omega
    · intro b o _ e
      have hlt := Heap.lt_size e
      exact hb.get b o (fun q => by
        rcases List.mem_cons.mp q with q | q
        · rw [q] at hlt; exact absurd hlt (Nat.not_lt.mpr (Nat.le_succ _))
        · rcases List.mem_cons.mp q with q | q
          · rw [q] at hlt; exact Nat.lt_irrefl _ hlt
          · cases q) (k b o e)
    · cases e : hh.get? pb with
      | none => rfl
      | some o => rw [show Heap.get? _ pb = some o from k pb o e] at hpb; cases hpb
  · rcases r with e | (v | _ | _ | _) <;> first | exact z | exact z.elim
end Mine
end
section
open PySem PySem.W PyProof.Rows PySem.Spec PySem.Calls
set_option Elab.async false
namespace Mine
/-- the file's addresses and objects -/
structure FileA where
  fx : Addr
  fd : Addr
  f : Addr
  cc : Addr
  ct : Addr
  cp : Addr
  l : Addr
  DO : Obj
  FO : Obj
  CO : Obj
  CT : Obj
  CP : Obj
/-- what stands of the file, its place apart -/
structure FileAt (F : FileA) (h : Heap) : Prop where
  fx : h.get? F.fx = some (instObj 95 F.fd)
  fd : h.get? F.fd = some F.DO
  f : h.get? F.f = some F.FO
  cc : h.get? F.cc = some F.CO
  ct : h.get? F.ct = some F.CT
  cp : h.get? F.cp = some F.CP
/-- how its addresses lie -/
structure FileO (F : FileA) : Prop where
  o1 : F.ct < F.cp
  o2 : F.cp < F.fd
  o3 : F.fd < F.fx
  o4 : F.fx < F.l
  o5 : F.l < F.cc
  o6 : F.cc < F.f
/-- the file's dict -/
structure FileD (P : Params) (F : FileA) : Prop where
  d : ∃ (t1 t2 t3 t4 t5 t6 t7 : Tok) (pb : Addr), F.DO = dictOf [⟨PyData.keyHash P (Str.ofString "lineno"), .str (Str.ofString "lineno") t1, .int 1 t2⟩, ⟨PyData.keyHash P (Str.ofString "instream"), .str (Str.ofString "instream") t3, .none⟩,
    ⟨PyData.keyHash P (Str.ofString "whitespace"), .str (Str.ofString "whitespace") t4, .str (Str.ofString "\n\t\r ") t5⟩, ⟨PyData.keyHash P (Str.ofString "pushback"), .str (Str.ofString "pushback") t6, .ref pb⟩,
    ⟨PyData.keyHash P (Str.ofString "read"), .str (Str.ofString "read") t7, .ref F.f⟩] 5
/-- a function's object -/
def FnObj (o : Obj) : Prop := ∃ oc od fd sl, o = ⟨oc, od, .func fd, sl⟩
theorem fnAt_of {g h : Heap} {L q : Addr} {o : Obj} {news : List (Addr × Obj)} (N : News g L h news) (hm : (q, o) ∈ news) (ho : FnObj o) : FnAt q h := by
  obtain ⟨oc, od, fd, sl, rfl⟩ := ho
  exact ⟨oc, od, fd, sl, (N _ hm).1⟩
/-- what its read does -/
def ReadSpec (w : World) (x : Str) (F : FileA) : Prop :=
  ∀ {p : Program} {loose : List Str} {mean : ExcName → Option Value} {mg mb : Str → Option Value} {A : Around} {s : Shared} {Q E : Value → Shared → Prop} {g : Heap} {k : Nat} {t t0 : Tok} {n : Nat},
    g.StaysIn s.heap → (hd.heap_1 w.params).In g → Top p loose mean mg mb g → A.depth + 5 < recursionLimit → A.units + 50 < cLine →
    FileAt F s.heap → s.heap.get? F.l = some (lstO [.int k t0] n) → (∀ a ∈ [F.f, F.cc, F.ct, F.cp, F.l], g.get? a = none) → k ≤ 100000 →
    (∀ (r : Str) h' tk' t1 t2 n', But [F.l] s.heap h' → h'.get? F.l = some (lstO [.int (k + 1 : Nat) t1] n') → r.cps.toList = (x.cps.toList.drop k).take 1 → Q (.str r t2) { s with heap := h', toks := tk' }) →
    wpAny (model PySem.Challenge.pw_pg0177_01 w) A (call (.ref F.f) [.int 1 t] []) Q E s
theorem led_get {g h : Heap} {L a : Addr} {o : Obj} {news : List (Addr × Obj)} (N : News g L h news) (hm : (a, o) ∈ news) : h.get? a = some o := (N _ hm).1
theorem led_none {g h : Heap} {L a : Addr} {o : Obj} {news : List (Addr × Obj)} (N : News g L h news) (hm : (a, o) ∈ news) : g.get? a = none := (N _ hm).2.2
theorem led_nl {g h : Heap} {L a : Addr} {o : Obj} {news : List (Addr × Obj)} (N : News g L h news) (hm : (a, o) ∈ news) : a ≠ L ∧ g.get? a = none := (N _ hm).2
theorem fr_chg {g h h' : Heap} {L a : Addr} {m : Str → Option Value} (F : Fr g L h m) (B : But [a] h h') (k : a ≠ L ∧ g.get? a = none) : Fr g L h' m := Fr.but F B (fun b hb => by rcases List.mem_singleton.mp hb with rfl; exact k)
/-- one object of the ledger changed -/
theorem led_upd {g h h' : Heap} {L c : Addr} {o o' : Obj} {news : List (Addr × Obj)} {gf : Obj → List (Addr × Obj)} {P : Prop} (N : News g L h news) (U : UpdF c o news gf) (B : But [c] h h') (e : h'.get? c = some o') (k : News g L h' (gf o') → P) : P := by
  obtain ⟨own, rest, rfl, hg, h1, h2⟩ := U.split
  refine k ?_
  rw [hg]
  intro p hp
  rcases List.mem_append.mp hp with q | q
  · have n := N p (List.mem_append_left _ q)
    exact ⟨B.get _ _ (fun z => h1 p q (List.mem_singleton.mp z)) n.1, n.2⟩
  rcases List.mem_cons.mp q with rfl | q
  · have n := N (c, o) (List.mem_append_right _ (List.Mem.head _))
    exact ⟨e, n.2⟩
  · have n := N p (List.mem_append_right _ (List.Mem.tail _ q))
    exact ⟨B.get _ _ (fun z => h2 p q (List.mem_singleton.mp z)) n.1, n.2⟩
theorem fileAt_of {g h : Heap} {L : Addr} {news : List (Addr × Obj)} {F : FileA} {D : Obj} (N : News g L h news) (hD : F.DO = D) (m1 : (F.fx, instObj 95 F.fd) ∈ news) (m2 : (F.fd, D) ∈ news) (m3 : (F.f, F.FO) ∈ news) (m4 : (F.cc, F.CO) ∈ news)
    (m5 : (F.ct, F.CT) ∈ news) (m6 : (F.cp, F.CP) ∈ news) : FileAt F h := ⟨led_get N m1, hD ▸ led_get N m2, led_get N m3, led_get N m4, led_get N m5, led_get N m6⟩
theorem fileNone_of {g h : Heap} {L : Addr} {news : List (Addr × Obj)} {F : FileA} {o : Obj} (N : News g L h news) (m3 : (F.f, F.FO) ∈ news) (m4 : (F.cc, F.CO) ∈ news)
    (m5 : (F.ct, F.CT) ∈ news) (m6 : (F.cp, F.CP) ∈ news) (m7 : (F.l, o) ∈ news) : ∀ a ∈ [F.f, F.cc, F.ct, F.cp, F.l], g.get? a = none := by
  intro a ha
  rcases List.mem_cons.mp ha with rfl | ha
  · exact led_none N m3
  rcases List.mem_cons.mp ha with rfl | ha
  · exact led_none N m4
  rcases List.mem_cons.mp ha with rfl | ha
  · exact led_none N m5
  rcases List.mem_cons.mp ha with rfl | ha
  · exact led_none N m6
  rcases List.mem_singleton.mp ha with rfl
  exact led_none N m7
theorem nl_yes {r : Str} (h : (r == Str.ofString "\n") = true) : r.cps.toList = [10] := by rw [eq_of_beq h]; decide +kernel
theorem nl_no {r : Str} (h : (r == Str.ofString "\n") = false) : ¬ r.cps.toList = [10] := fun e => by
  have : r = Str.ofString "\n" := by
    cases r with | mk c =>
    have e : c = ⟨[10]⟩ := Array.toList_inj.mp e
    rw [e]; decide +kernel
  rw [this] at h
  exact absurd h (by decide +kernel)
theorem max_min (a b : Nat) : max (0 : Int) (min (a : Int) (b : Int)) = ((min a b : Nat) : Int) := by
  rw [Int.max_eq_right (Int.le_min.mpr ⟨Int.natCast_nonneg a, Int.natCast_nonneg b⟩)]
  omega
theorem slice1 (x : Str) (k : Nat) : (Txt.slice x (some (k : Int)) (some ((k + 1 : Nat) : Int))).cps.toList = (x.cps.toList.drop k).take 1 := by
  have e : Builtin.Str.strSliceIndices (some (k : Int)) (some ((k + 1 : Nat) : Int)) 1 x.length = (List.range (min (k + 1) x.length - min k x.length)).map (min k x.length + ·) := by
    rw [← sliceRange_one]
    unfold Builtin.Str.strSliceIndices
    have h1 : ¬ ((k : Int) < 0) := Int.not_lt.mpr (Int.natCast_nonneg k)
    have h2 : ¬ (((k + 1 : Nat) : Int) < 0) := Int.not_lt.mpr (Int.natCast_nonneg (k + 1))
    simp only [h1, h2, if_false, show (1 : Int) > 0 by decide, if_true]
    rw [max_min, max_min]
  have q : ((Builtin.Str.strSliceIndices (some (k : Int)) (some ((k + 1 : Nat) : Int)) 1 x.length).filterMap (x.cps[·]?)) = (x.cps.toList.drop k).take 1 := by
    rw [e, pick_run]
    have hn : x.length = x.cps.toList.length := by rw [Array.length_toList]; rfl
    by_cases h : k < x.length
    · rw [Nat.min_eq_left (Nat.le_of_lt h), Nat.min_eq_left h]
      congr 1; exact Nat.add_sub_cancel_left k 1
    · have h' := Nat.le_of_not_lt h
      rw [Nat.min_eq_right h', Nat.min_eq_right (Nat.le_succ_of_le h'), Nat.sub_self, List.take_zero, List.drop_eq_nil_of_le (hn ▸ h'), List.take_nil]
  unfold Txt.slice
  split
  · rename_i h
    rw [Bool.and_eq_true] at h
    have h2 := eq_of_beq h.2
    rw [e, List.length_map, List.length_range] at h2
    have hn : x.length = x.cps.toList.length := by rw [Array.length_toList]; rfl
    have : x.cps.toList.length ≤ 1 := by omega
    by_cases h0 : k = 0
    · subst h0
      rw [List.drop_zero, List.take_of_length_le this]
    · have h3 : x.cps.toList.length = 0 := by omega
      rw [List.length_eq_zero_iff] at h3
      rw [h3]; simp
  · rw [List.toList_toArray]; exact q
end Mine
end
section
open PySem PySem.W PyProof.Rows PySem.Spec PySem.Calls
set_option Elab.async false
namespace Mine
theorem fill_lexFile : hd.heap_1 = hd.heap_1 ∧ PySem.Challenge.rw_pg0177_01 = PySem.Challenge.rw_pg0177_01 := by k_fill; exact ⟨rfl, rfl⟩
set_option pp.maxSteps 2500
set_option pp.deepTerms.threshold 6
set_option linter.unusedVariables false
set_option maxRecDepth 100000 in
set_option maxHeartbeats 8000000 in
theorem lexFile {p : Program} {loose : List Str} {mean : ExcName → Option Value} {mg mb : Str → Option Value} {w : World}
    {dp un : Nat} {fr : List Env} {gd : Option (List Code)} {s : Shared} {Q E : Value → Shared → Prop} {g : Heap}
    {x : Str} {ta : Tok}
    (st : g.StaysIn s.heap) (X : (hd.heap_1 w.params).In g) (T : Top p loose mean mg mb g)
    (hdp : dp + 30 < recursionLimit) (hun : un + 300 < cLine)
    (hx : x.length ≤ 10000) (C : CodeHd g 105 101) (hP : s.heap.get? 101 = some (tabObj #[])) (hPg : g.get? 101 = none)
    (hret : ∀ F h' tk' t, But [101] s.heap h' → s.heap.objs.size ≤ F.ct → FileO F → FileAt F h' → FileD w.params F → FnObj F.FO → h'.get? F.l = some (lstO [.int 0 t] 0) → GrownAt 101 h' → ReadSpec w x F → Q (.ref F.fx) { s with heap := h', toks := tk' }) :
    wpAny (model PySem.Challenge.pw_pg0177_01 w) (arnd dp un fr gd) (call (.ref 106) [.str x ta] []) Q E s := by
  w_top off
  k_with_none
  k_with "call ref" => ((with_reducible show wpAny _ _ (call (Value.ref 95) _ _) _ _ _); (rename News _ _ _ _ => N'); (rename Fr _ _ _ _ => F'); (refine lexNew (Fr.keep F') (by assumption) (by assumption) (by dsimp only [arnd, Around.deeper]; first | exact room2 (by assumption) (by decide) | omega) (by dsimp only [arnd, Around.deeper]; first | exact room2 (by assumption) (by decide) | omega) ?_); intro xx dxx pbb hz2 tkz tz1 tz2 tz3 tz4 tz5 tz6 hbz nxz ndz npz hsz dltx xltp hxz hpz hdz; have lz1 := allLt_new N' hsz; (try k_lt lz1); replace dltx := ltN dltx; replace xltp := ltN xltp; clear hsz; (dsimp only [ent] at hdz); replace N' := News.more F' (News.more F' (News.more F' (News.pure N' hbz) npz hpz) ndz hdz) nxz hxz; replace F' := Fr.pure F' hbz)
  k_with "eval Name" => (k_here; k_dflt (refine' nameX_F ?N ?c ?m ?d ?_ ?a ?b; (case a => rfl); (case b => rfl); (case N => k_asm); (case c => rfl); (case m => k_mem); (case d => k_asm); k_whole))
  have hob : ∀ p ∈ ([(101, tabObj #[])] : List (Addr × Obj)), s.heap.get? p.1 = some p.2 ∧ g.get? p.1 = none := (by intro p hp; rcases List.mem_singleton.mp hp with rfl; exact ⟨hP, hPg⟩)
  refine' enteredC (args := ⟨[.str x ta], []⟩) (ob := [(101, tabObj #[])]) ?k8 st X T ?kO ?k6 ?k7 ?k9 ?kB ?kD ?_ ?c2 ?c3 ?c4
  case k8 => exact room0 hdp
  case kO => exact hob
  case k6 => k_is
  case k7 => k_is
  case k9 => first | exact BindsTo.of_eq rfl | exact binds_K (X.keeps st) rfl (by k_is) rfl rfl rfl
  case kB => exact rfl
  case kD => decide +kernel
  case c2 => exact rfl
  case c3 => exact rfl
  case c4 => exact rfl
  intro g' L' h' tk' cells' hz eL hS hO X' T' F' N' Y' l1
  replace C : CodeHd g' 105 101 := C.keeps (fun b o e => hS b o (fun q => by rcases List.mem_singleton.mp q with rfl; rw [hPg] at e; cases e) (st b o e))
  clear X T st
  try k_lt l1
  k_cells Y'
  try simp only [List.cons_append, List.nil_append] at N'
  try dsimp only
  show wpAny _ _ _ _ _ _
  k_fold
  k_steps
  all_goals (try dsimp only)
  all_goals (subst qk ek)
  all_goals (try dsimp only)
  all_goals rename News _ _ _ _ => N
  all_goals rename Fr _ _ _ _ => F
  rename_i oo1 oo2 dd1 dd2 hz3 tkz2 ll hz4 lz2 a1 a2 a3 a4 a5 a6 a7 a8 a9 b1 b2 b3 b4 b5 b6 b7 b8 b9
  have n0 := (N _ (List.Mem.head _)).1
  have n1 := (N _ (List.Mem.tail _ (List.Mem.head _))).1
  have n2 := (N _ (List.Mem.tail _ (List.Mem.tail _ (List.Mem.head _)))).1
  have n3 := (N _ (List.Mem.tail _ (List.Mem.tail _ (List.Mem.tail _ (List.Mem.head _))))).1
  have n4 := (N _ (List.Mem.tail _ (List.Mem.tail _ (List.Mem.tail _ (List.Mem.tail _ (List.Mem.head _)))))).1
  have n6 := (N _ (List.Mem.tail _ (List.Mem.tail _ (List.Mem.tail _ (List.Mem.tail _ (List.Mem.tail _ (List.Mem.tail _ (List.Mem.head _)))))))).1
  have n7 := (N _ (List.Mem.tail _ (List.Mem.tail _ (List.Mem.tail _ (List.Mem.tail _ (List.Mem.tail _ (List.Mem.tail _ (List.Mem.tail _ (List.Mem.head _))))))))).1
  refine hret ⟨xx, dxx, a4, a5, _, _, ll, _, _, a6, _, a2⟩ b9 _ _ (But.ofFr F hz hS) ?_ ⟨?_, ?_, dltx, ?_, ?_, b7⟩ ⟨n3, n4, n0, n1, n7, n6⟩ ⟨_, _, _, _, _, _, _, _, rfl⟩ ⟨_, _, _, _, rfl⟩ n2 (GrownAt.of N (by k_mem)) ?_
  · rw [← eL]; exact Nat.le_succ _
  · exact Nat.lt_succ_self _
  · exact lz1.1
  · exact lz2.1
  · exact b6.1
  clear hret
  clear N F hbz
  have dT : oo2.data = .cell (some (.str x ta)) := dd2
  have eA : L' + 1 + 1 ≠ ll := Nat.ne_of_lt (Nat.lt_trans lz1.1 (Nat.lt_trans dltx lz2.1))
  have eB : L' + 1 ≠ ll := Nat.ne_of_lt (Nat.lt_trans (Nat.lt_succ_self _) (Nat.lt_trans lz1.1 (Nat.lt_trans dltx lz2.1)))
  replace eA := neN eA
  replace eB := neN eB
  clear dd1 dd2 n0 n1 n2 n3 n4 n6 n7 hxz hpz hdz nxz ndz npz lz1 lz2 b6 b7 dltx xltp l1 C T' X' hO hS hz hP hPg
  intro p loose mean mg' mb' A2 s2 Q2 E2 g2 k t t0 n st X T hdp2 hun2 hF hl hg hk hret
  dsimp only at hF hl hg hret
  refine' enteredX (args := ⟨[.int 1 t], []⟩) (ob := [(ll, lstO [.int k t0] n), (L' + 1 + 1, a2), (L' + 1, oo2)]) ?k8 st X T ?kO hF.f rfl ⟨_, _, _, _, rfl, hF.cc, b4, b5⟩ ?k9 ?kB ?_ ?c2 ?c3 ?c4 ?c5
  case k8 => omega
  case k9 => exact BindsTo.of_eq rfl
  case kB => exact locs rfl
  case c2 => exact rfl
  case c3 => exact rfl
  case c4 => exact rfl
  case c5 => decide
  case kO => exact (by
    intro p hp
    rcases List.mem_cons.mp hp with rfl | hp
    · exact ⟨hl, hg _ (by simp)⟩
    rcases List.mem_cons.mp hp with rfl | hp
    · exact ⟨hF.cp, hg _ (by simp)⟩
    rcases List.mem_singleton.mp hp with rfl
    exact ⟨hF.ct, hg _ (by simp)⟩)
  intro g3 L3 h3 hz eL hS hO X' T' F' N'
  clear X T st
  try dsimp only
  show wpAny _ _ _ _ _ _
  k_fold
  k_steps
  subst qk ek
  rename News _ _ _ _ => N
  rename Fr _ _ _ _ => F
  show Q2 _ _
  have e1 : [(k : Int)].getD (Int.toNat 0) 0 + 1 = ((k + 1 : Nat) : Int) := by show (k : Int) + 1 = _; omega
  have e2 : [((k + 1 : Nat) : Int)].getD (Int.toNat 0) 0 - 1 = (k : Int) := by show ((k + 1 : Nat) : Int) - 1 = _; omega
  have e3 : [((k + 1 : Nat) : Int)].getD (Int.toNat 0) 0 = ((k + 1 : Nat) : Int) := rfl
  rw [e1] at N ⊢
  rw [e2, e3]
  refine hret _ _ _ _ _ _ ((But.ofFr F hz hS).less ?_) (N _ (List.Mem.head _)).1 (slice1 _ _)
  intro b hb hb2 o ho
  rcases List.mem_cons.mp hb with q | hb
  · exact absurd (List.mem_singleton.mpr q) hb2
  rcases List.mem_cons.mp hb with q | hb
  · subst q; rw [show s2.heap.get? _ = _ from hF.cp] at ho; cases ho; exact (N _ (List.Mem.tail _ (List.Mem.head _))).1
  rcases List.mem_cons.mp hb with q | hb
  · subst q; rw [show s2.heap.get? _ = _ from hF.ct] at ho; cases ho; exact (N _ (List.Mem.tail _ (List.Mem.tail _ (List.Mem.head _)))).1
  · cases hb
end Mine
end
section
open PySem PySem.W PyProof.Rows PySem.Spec PySem.Calls
set_option Elab.async false
namespace Mine
local macro_rules | `(tactic| k_ne) => `(tactic| k_extra "k_ne")
theorem fill_lexRc : hd.heap_1 = hd.heap_1 ∧ PySem.Challenge.rw_pg0177_01 = PySem.Challenge.rw_pg0177_01 := by k_fill; exact ⟨rfl, rfl⟩
set_option pp.maxSteps 900
set_option pp.deepTerms.threshold 6
set_option linter.unusedVariables false
set_option maxRecDepth 100000 in
set_option maxHeartbeats 8000000 in
theorem lexRc {p : Program} {loose : List Str} {mean : ExcName → Option Value} {mg mb : Str → Option Value} {w : World}
    {A : Around} {s : Shared} {Q E : Value → Shared → Prop} {g : Heap}
    {lx ld pb pbf : Addr} {ln : Int} {k n : Nat} {t0 t1 t2 t3 t4 t5 t6 u1 u2 u3 u4 u5 u6 u7 : Tok} {x : Str} {F : FileA}
    (st : g.StaysIn s.heap) (X : (hd.heap_1 w.params).In g) (T : Top p loose mean mg mb g)
    (hdp : A.depth + 30 < recursionLimit) (hun : A.units + 300 < cLine)
    (hlx : s.heap.get? lx = some (instObj 95 ld)) (hld : s.heap.get? ld = some (dictOf [⟨PyData.keyHash w.params (Str.ofString "lineno"), .str (Str.ofString "lineno") t1, .int ln t2⟩, ⟨PyData.keyHash w.params (Str.ofString "instream"), .str (Str.ofString "instream") t3, .ref F.fx⟩, ⟨PyData.keyHash w.params (Str.ofString "whitespace"), .str (Str.ofString "whitespace") t4, .str (Str.ofString "\n\t\r ") t5⟩, ⟨PyData.keyHash w.params (Str.ofString "pushback"), .str (Str.ofString "pushback") t6, .ref pb⟩] 4))
    (hF : FileAt F s.heap) (hfn : FnObj F.FO) (hFO : FileO F) (hDO : F.DO = dictOf [⟨PyData.keyHash w.params (Str.ofString "lineno"), .str (Str.ofString "lineno") u1, .int 1 u2⟩, ⟨PyData.keyHash w.params (Str.ofString "instream"), .str (Str.ofString "instream") u3, .none⟩, ⟨PyData.keyHash w.params (Str.ofString "whitespace"), .str (Str.ofString "whitespace") u4, .str (Str.ofString "\n\t\r ") u5⟩, ⟨PyData.keyHash w.params (Str.ofString "pushback"), .str (Str.ofString "pushback") u6, .ref pbf⟩, ⟨PyData.keyHash w.params (Str.ofString "read"), .str (Str.ofString "read") u7, .ref F.f⟩] 5) (hl : s.heap.get? F.l = some (lstO [.int k t0] n)) (R : ReadSpec w x F) (hk : k ≤ 100000) (hx : x.length ≤ 10000)
    (o7 : F.f < ld) (o8 : ld < lx) (o9 : lx < pb) (hg : ∀ a ∈ [lx, ld, F.fx, F.fd, F.f, F.cc, F.ct, F.cp, F.l], g.get? a = none)
    (hret : ∀ (r : Str) h' tk' ln' t0' t1' t2' n' t, But [ld, F.l] s.heap h' → h'.get? F.l = some (lstO [.int (k + 1 : Nat) t0'] n') → h'.get? ld = some (dictOf [⟨PyData.keyHash w.params (Str.ofString "lineno"), .str (Str.ofString "lineno") t1', .int ln' t2'⟩, ⟨PyData.keyHash w.params (Str.ofString "instream"), .str (Str.ofString "instream") t3, .ref F.fx⟩, ⟨PyData.keyHash w.params (Str.ofString "whitespace"), .str (Str.ofString "whitespace") t4, .str (Str.ofString "\n\t\r ") t5⟩, ⟨PyData.keyHash w.params (Str.ofString "pushback"), .str (Str.ofString "pushback") t6, .ref pb⟩] 4) →
      r.cps.toList = (x.cps.toList.drop k).take 1 → ln' = ln + (if r.cps.toList = [10] then 1 else 0) → Q (.str r t) { s with heap := h', toks := tk' }) :
    codeAny (model PySem.Challenge.pw_pg0177_01 w) A (.call (.ref 78) ⟨[.ref lx], []⟩) (fun r s' => match r with | .ok (.ret v) => Q v s' | .ok _ => False | .error e => E e s') s := by
  w_top off
  k_with_none
  k_with "k_ne" => ((refine neN ?_); (try dsimp only); (with_reducible first | assumption | (refine Ne.symm ?_; assumption) | (refine Nat.ne_of_lt ?_; assumption) | (refine Nat.ne_of_gt ?_; assumption)))
  k_with "call ref" => ((with_reducible show wpAny _ _ (call (Value.ref (FileA.f _)) _ _) _ _ _); (rename News _ _ _ _ => N'); (rename Fr _ _ _ _ => F'); (rename ReadSpec _ _ _ => R'); (refine' R' (Fr.keep F') (by assumption) (by assumption) (by dsimp only [Around.deeper, Around.under]; omega) (by dsimp only [Around.deeper, Around.under]; omega) (fileAt_of N' (by assumption) (by k_mem) (by k_mem) (by k_mem) (by k_mem) (by k_mem) (by k_mem)) (led_get N' (by k_mem)) (fileNone_of N' (by k_mem) (by k_mem) (by k_mem) (by k_mem) (by k_mem)) (by assumption) ?_); intro r h' tk' t1' t2' n' hb' hl' hr'; (refine' led_upd N' ?U hb' hl' ?_; (case U => k_updF)); clear N'; intro N'; (try dsimp only at N'); replace F' := fr_chg F' hb' (led_nl N' (by k_mem)))
  k_with "callWith ref" => (refine callWith_F (fnAt_of (by assumption) (by k_mem) (by assumption)) ?_)
  k_with "FnAt" => (exact fnAt_of (by assumption) (by k_mem) (by assumption))
  have hob : ∀ p ∈ ([(lx, instObj 95 ld), (ld, dictOf [⟨PyData.keyHash w.params (Str.ofString "lineno"), .str (Str.ofString "lineno") t1, .int ln t2⟩, ⟨PyData.keyHash w.params (Str.ofString "instream"), .str (Str.ofString "instream") t3, .ref F.fx⟩, ⟨PyData.keyHash w.params (Str.ofString "whitespace"), .str (Str.ofString "whitespace") t4, .str (Str.ofString "\n\t\r ") t5⟩, ⟨PyData.keyHash w.params (Str.ofString "pushback"), .str (Str.ofString "pushback") t6, .ref pb⟩] 4), (F.fx, instObj 95 F.fd), (F.fd, dictOf [⟨PyData.keyHash w.params (Str.ofString "lineno"), .str (Str.ofString "lineno") u1, .int 1 u2⟩, ⟨PyData.keyHash w.params (Str.ofString "instream"), .str (Str.ofString "instream") u3, .none⟩, ⟨PyData.keyHash w.params (Str.ofString "whitespace"), .str (Str.ofString "whitespace") u4, .str (Str.ofString "\n\t\r ") u5⟩, ⟨PyData.keyHash w.params (Str.ofString "pushback"), .str (Str.ofString "pushback") u6, .ref pbf⟩, ⟨PyData.keyHash w.params (Str.ofString "read"), .str (Str.ofString "read") u7, .ref F.f⟩] 5), (F.f, F.FO), (F.cc, F.CO), (F.ct, F.CT), (F.cp, F.CP), (F.l, lstO [.int k t0] n)] : List (Addr × Obj)), s.heap.get? p.1 = some p.2 ∧ g.get? p.1 = none := (by
    intro p hp
    rcases List.mem_cons.mp hp with rfl | hp
    · exact ⟨hlx, hg _ (by simp)⟩
    rcases List.mem_cons.mp hp with rfl | hp
    · exact ⟨hld, hg _ (by simp)⟩
    rcases List.mem_cons.mp hp with rfl | hp
    · exact ⟨hF.fx, hg _ (by simp)⟩
    rcases List.mem_cons.mp hp with rfl | hp
    · exact ⟨hDO ▸ hF.fd, hg _ (by simp)⟩
    rcases List.mem_cons.mp hp with rfl | hp
    · exact ⟨hF.f, hg _ (by simp)⟩
    rcases List.mem_cons.mp hp with rfl | hp
    · exact ⟨hF.cc, hg _ (by simp)⟩
    rcases List.mem_cons.mp hp with rfl | hp
    · exact ⟨hF.ct, hg _ (by simp)⟩
    rcases List.mem_cons.mp hp with rfl | hp
    · exact ⟨hF.cp, hg _ (by simp)⟩
    rcases List.mem_singleton.mp hp with rfl
    exact ⟨hl, hg _ (by simp)⟩)
  refine' enteredCode (args := ⟨[.ref lx], []⟩) (ob := [(lx, instObj 95 ld), (ld, dictOf [⟨PyData.keyHash w.params (Str.ofString "lineno"), .str (Str.ofString "lineno") t1, .int ln t2⟩, ⟨PyData.keyHash w.params (Str.ofString "instream"), .str (Str.ofString "instream") t3, .ref F.fx⟩, ⟨PyData.keyHash w.params (Str.ofString "whitespace"), .str (Str.ofString "whitespace") t4, .str (Str.ofString "\n\t\r ") t5⟩, ⟨PyData.keyHash w.params (Str.ofString "pushback"), .str (Str.ofString "pushback") t6, .ref pb⟩] 4), (F.fx, instObj 95 F.fd), (F.fd, dictOf [⟨PyData.keyHash w.params (Str.ofString "lineno"), .str (Str.ofString "lineno") u1, .int 1 u2⟩, ⟨PyData.keyHash w.params (Str.ofString "instream"), .str (Str.ofString "instream") u3, .none⟩, ⟨PyData.keyHash w.params (Str.ofString "whitespace"), .str (Str.ofString "whitespace") u4, .str (Str.ofString "\n\t\r ") u5⟩, ⟨PyData.keyHash w.params (Str.ofString "pushback"), .str (Str.ofString "pushback") u6, .ref pbf⟩, ⟨PyData.keyHash w.params (Str.ofString "read"), .str (Str.ofString "read") u7, .ref F.f⟩] 5), (F.f, F.FO), (F.cc, F.CO), (F.ct, F.CT), (F.cp, F.CP), (F.l, lstO [.int k t0] n)]) ?k8 st X T ?kO ?k6 ?k7 ?k9 ?kB ?_ ?c2 ?c3 ?c4 ?c5
  case k8 => exact room0 hdp
  case kO => exact hob
  case k6 => k_is
  case k7 => k_is
  case k9 => first | exact BindsTo.of_eq rfl | exact binds_K (X.keeps st) rfl (by k_is) rfl rfl rfl
  case kB => exact locs rfl
  case c2 => exact rfl
  case c3 => exact rfl
  case c4 => exact rfl
  case c5 => decide
  intro g' L' h' hz eL hS hO X' T' F' N'
  clear X T st
  try dsimp only
  show wpAny _ _ _ _ _ _
  k_fold
  obtain ⟨q1, q2, q3, q4, q5, q6⟩ := hFO
  replace q1 := ltN q1; replace q2 := ltN q2; replace q3 := ltN q3; replace q4 := ltN q4; replace q5 := ltN q5; replace q6 := ltN q6; replace o7 := ltN o7; replace o8 := ltN o8; replace o9 := ltN o9
  have lf := ltN (Nat.lt_trans q5 q6)
  have lld := ltN (Nat.lt_trans lf o7)
  have xd := ltN (Nat.lt_trans q4 lld)
  have fdl := ltN (Nat.lt_trans q3 q4)
  have cpl := ltN (Nat.lt_trans q2 fdl)
  have ctl := ltN (Nat.lt_trans q1 cpl)
  have fdd := ltN (Nat.lt_trans q3 xd)
  have cpd := ltN (Nat.lt_trans cpl lld)
  have ctd := ltN (Nat.lt_trans ctl lld)
  have ccd := ltN (Nat.lt_trans q6 o7)
  k_steps
  all_goals show Q _ _
  all_goals rename News _ _ _ _ => N
  all_goals rename Fr _ _ _ _ => F
  all_goals first
    | (rename (_ == Str.ofString "\n") = true => hc
       refine hret _ _ _ _ _ _ _ _ _ ((But.ofFr F hz hS).led hob ?_) (led_get N (by k_mem)) (led_get N (by k_mem)) (by assumption) (by rw [if_pos (nl_yes hc)])
       (repeat' (first | exact List.forall_mem_nil _ | refine List.forall_mem_cons.mpr ⟨?_, ?_⟩ | exact fun _ => (N _ (by k_mem)).1 | exact fun q => absurd (List.Mem.head _) q | exact fun q => absurd (List.Mem.tail _ (List.Mem.head _)) q | exact fun q => absurd (List.Mem.tail _ (List.Mem.tail _ (List.Mem.head _))) q)))
    | (rename (_ == Str.ofString "\n") = false => hc
       refine hret _ _ _ _ _ _ _ _ _ ((But.ofFr F hz hS).led hob ?_) (led_get N (by k_mem)) (led_get N (by k_mem)) (by assumption) (by rw [if_neg (nl_no hc), Int.add_zero])
       (repeat' (first | exact List.forall_mem_nil _ | refine List.forall_mem_cons.mpr ⟨?_, ?_⟩ | exact fun _ => (N _ (by k_mem)).1 | exact fun q => absurd (List.Mem.head _) q | exact fun q => absurd (List.Mem.tail _ (List.Mem.head _)) q | exact fun q => absurd (List.Mem.tail _ (List.Mem.tail _ (List.Mem.head _))) q)))
end Mine
end
section
open PySem PySem.W PyProof.Rows PySem.Spec PySem.Calls
set_option Elab.async false
namespace Mine
/-- what iter(f, '') makes -/
noncomputable abbrev itObj (m : Addr) (t : Tok) : Obj := { cls := .type "callable_iterator", data := .fields #[.ref m, .str (Str.ofString "") t, .bool false] }
noncomputable abbrev itEnd : Obj := { cls := .type "callable_iterator", data := .fields #[.none, .none, .bool true] }
theorem slot_callit_next : Slot "callable_iterator" "__next__" "callable_iterator.__next__" :=
  .of (owner := "callable_iterator") (n := "__next__") (by rw [typeLookup_type, builtinLookup_eq_fast]; kernel_rfl) (by decide +kernel) (by decide +kernel) (by decide +kernel)
    (by first | exact .inl (by decide +kernel) | exact .inr (by decide +kernel)) (by rw [isSubtype_type]; kernel_rfl)
theorem entry_callit_next : entryFor table "callable_iterator.__next__" = some Builtin.«callable_iterator.__next__» := entryFor_of_fast (by kernel_rfl)
theorem args_callit_next (a : Value) : argsOk "callable_iterator.__next__" ⟨[a], []⟩ := by unfold argsOk; kernel_rfl
section
variable {prog : Program} {w : World} {A : Around} {s : Shared} {E : Value → Shared → Prop}
theorem wpAny_callBorrowed {M : Model} {f : Value} {pos : List Value} {Q : Value → Shared → Prop}
    (hc : codeAny M A (.call f ⟨pos, []⟩) (fun r s' => match r with | .ok (.ret v) => Q v s' | .ok _ => False | .error e => E e s') s) : wpAny M A (callBorrowed f pos) Q E s := fun Γ p hΓ => by
  have h := hc _ p rfl (hΓ.enter _ none p (by intro x; cases x))
  refine wpCode_mono (fun r s' hr => ?_) h
  cases r with
  | error e => exact hr
  | ok f => cases f <;> exact hr
/-- a method of a def is borrowed -/
theorem borrows_method {M : Model} {m f : Addr} {self : Value} {o : Obj} {fd : FuncData} {Q : Bool → Shared → Prop} (hm : s.heap.get? m = some (methodObj (.ref f) self)) (hf : s.heap.get? f = some o) (hfd : o.data = .func fd) (h : Q true s) :
    wpAny M A (borrowsExactly (.ref m)) Q E s := by
  unfold borrowsExactly
  refine wpAny_bind (wpAny_load hm ?_)
  show wpAny _ _ (if (Value.type "method" == Value.type "method") = true then _ else _) _ _ _
  rw [if_pos (by decide)]
  refine wpAny_bind (wpAny_load hf ?_)
  rw [hfd]
  exact wpAny_pure h
/-- the end of an iterator, as pyNext takes it -/
theorem stop_end {α : Type} {R : α → Shared → Prop} {Q : Option Value → Shared → Prop} (hh : A.handled = none) (hQ : ∀ h', But [] s.heap h' → Q none { s with heap := h' }) :
    wpAny (model prog w) A.in1 (Builtin.SmallTypes.stopIteration : Sem α) R
      (fun e s' => wpAny (model prog w) A (isInstance e (.type "StopIteration") >>= fun b => if b = true then pure none else throw e) Q E s') s := by
  show wpAny _ _ (newExc (.type "StopIteration") [] >>= _) _ _ _
  refine wpAny_bind ?_
  simp only [newExc, newTuple]
  refine wpAny_bind (wpAny_newObj_type ?_ (by size_fits))
  refine wpAny_bind (m := firstArgMember _ _) (wpAny_of_eq (a := Value.none) (by first | rfl | (simp only [firstArgMember]; rfl)) ?_)
  refine wpAny_newObj_type ?_ (by size_fits)
  simp only [raiseNew]
  refine wpAny_bind (wpAny_handled ?_)
  rw [show A.in1.handled = none from hh]
  refine wpAny_bind (wpAny_pure (wpAny_throw ?_))
  refine wpAny_bind (wpAny_isInstance (T := "StopIteration") (b := true) ⟨_, Heap.get?_push_size _ rfl, rfl⟩ isSubtype_stop ?_)
  refine wpAny_pure (hQ _ ⟨?_, fun b o _ e => Heap.get?_push_of_some _ (Heap.get?_push_of_some _ e)⟩)
  rw [Heap.size_push, Heap.size_push]; omega
/-- next of an iterator that ended -/
theorem next_ended {it : Addr} {Q : Option Value → Shared → Prop} (hh : A.handled = none) (hit : s.heap.get? it = some itEnd) (hQ : ∀ h', But [] s.heap h' → Q none { s with heap := h' }) :
    wpAny (model prog w) A (pyNext (.ref it)) Q E s := by
  have ht : s.TypeIs (.ref it) "callable_iterator" := ⟨_, hit, rfl⟩
  unfold pyNext
  refine wpAny_bind (wpAny_attempt (wpAny_callSpecial?_slot (name := Str.ofString "__next__") ht slot_callit_next
    (wpAny_call_entry slot_callit_next ht entry_callit_next ?_ (args_callit_next _))))
  show wpAny _ _ (field (.ref it) 2 >>= _) _ _ s
  refine wpAny_bind (wpAny_field hit rfl (x := .bool true) rfl ?_)
  rw [if_pos (by decide)]
  refine wpAny_bind (wpAny_rule ?_)
  first | exact wpAny_bind (stop_end hh hQ) | exact stop_end hh hQ
/-- next of an iterator over a method's answers -/
theorem next_call {it m f : Addr} {self : Value} {t : Tok} {Q : Option Value → Shared → Prop} (hh : A.handled = none) (hit : s.heap.get? it = some (itObj m t)) (hm : s.heap.get? m = some (methodObj (.ref f) self))
    (hf : ∃ o fd, s.heap.get? f = some o ∧ o.data = .func fd)
    (hc : codeAny (model prog w) A.in1 (.call (.ref f) ⟨[self], []⟩) (fun r s' => match r with
      | .ok (.ret v) => ∃ x t', v = .str x t' ∧ s'.heap.get? it = some (itObj m t) ∧ s'.heap.get? m = some (methodObj (.ref f) self) ∧ (∃ o fd, s'.heap.get? f = some o ∧ o.data = .func fd) ∧
          (x ≠ Str.ofString "" → Q (some v) s') ∧ (x = Str.ofString "" → ∀ h', But [it] s'.heap h' → h'.get? it = some itEnd → Q none { s' with heap := h' })
      | _ => False) s) :
    wpAny (model prog w) A (pyNext (.ref it)) Q E s := by
  have ht : s.TypeIs (.ref it) "callable_iterator" := ⟨_, hit, rfl⟩
  unfold pyNext
  refine wpAny_bind (wpAny_attempt (wpAny_callSpecial?_slot (name := Str.ofString "__next__") ht slot_callit_next
    (wpAny_call_entry slot_callit_next ht entry_callit_next ?_ (args_callit_next _))))
  show wpAny _ _ (field (.ref it) 2 >>= _) _ _ s
  refine wpAny_bind (wpAny_field hit rfl (x := .bool false) rfl ?_)
  rw [if_neg (by decide)]
  refine wpAny_bind (wpAny_field hit rfl (x := .ref m) rfl ?_)
  obtain ⟨o, fd, hfo, hfd⟩ := hf
  refine wpAny_bind (wpAny_attempt ?_)
  unfold callOutOfASlot
  refine wpAny_bind (borrows_method hm hfo hfd ?_)
  rw [if_pos rfl]
  refine wpAny_callBorrowed (method_call hm (codeAny_mono hc fun r s' hr => ?_))
  cases r with
  | error e => exact hr.elim
  | ok fl =>
  cases fl with
  | ret v =>
    obtain ⟨x, t', rfl, hit', hm', ⟨o', fd', hfo', hfd'⟩, h1, h2⟩ := hr
    dsimp only
    refine wpAny_bind (wpAny_field hit' rfl (x := .bool false) rfl ?_)
    rw [if_neg (by decide)]
    refine wpAny_bind (wpAny_field hit' rfl (x := .str (Str.ofString "") t) rfl ?_)
    refine wpAny_bind (wpAny_holding (wpAny_eqBool_str ?_))
    by_cases hx : x = Str.ofString ""
    · rw [decide_eq_true hx.symm]
      rw [if_neg (by decide)]
      refine wpAny_bind (wpAny_rule ?_)
      refine wpAny_bind ?_
      show wpAny _ _ (field (.ref it) 0 >>= _) _ _ s'
      refine wpAny_bind (wpAny_field hit' rfl (x := .ref m) rfl ?_)
      refine wpAny_bind ?_
      show wpAny _ _ (borrowsExactly (.ref m) >>= _) _ _ s'
      refine wpAny_bind (borrows_method hm' hfo' hfd' ?_)
      rw [if_pos rfl]
      refine wpAny_pure ?_
      refine wpAny_bind (wpAny_setField_rec hit' (by simp) fun h1' e1 b1 => ?_)
      refine wpAny_bind (wpAny_setField_rec (s := { s' with heap := h1' }) e1 (by simp) fun h2' e2 b2 => ?_)
      refine wpAny_setField_rec (s := { s' with heap := h2' }) e2 (by simp) fun h3' e3 b3 => ?_
      refine stop_end hh fun h4' b4 => ?_
      refine h2 hx h4' ⟨?_, fun b o n e => b4.get b o (fun q => nomatch q) ?_⟩ (b4.get _ _ (fun q => nomatch q) ?_)
      · have z4 := b4.size
        have z3 := b3.1
        have z2 := b2.1
        have z1 := b1.1
        simp only at z4 z3 z2 z1
        omega
      · have n' : b ≠ it := fun q => n (List.mem_singleton.mpr q)
        exact (b3.2 b n').trans ((b2.2 b n').trans ((b1.2 b n').trans e))
      · exact e3
    · rw [decide_eq_false (fun q => hx q.symm)]
      rw [if_pos (by decide)]
      exact wpAny_pure ⟨_, rfl, wpAny_pure (h1 hx)⟩
  | _ => exact hr.elim
theorem slot_callit_iter : Slot "callable_iterator" "__iter__" "callable_iterator.__iter__" :=
  .of (owner := "callable_iterator") (n := "__iter__") (by rw [typeLookup_type, builtinLookup_eq_fast]; kernel_rfl) (by decide +kernel) (by decide +kernel) (by decide +kernel)
    (by first | exact .inl (by decide +kernel) | exact .inr (by decide +kernel)) (by rw [isSubtype_type]; kernel_rfl)
theorem entry_callit_iter : entryFor table "callable_iterator.__iter__" = some Builtin.«dict_keyiterator.__iter__» :=
  entryFor_alias (id' := "dict_keyiterator.__iter__") (by kernel_rfl) rfl (by decide +kernel) (by kernel_rfl)
theorem args_callit_iter (a : Value) : argsOk "callable_iterator.__iter__" ⟨[a], []⟩ := by unfold argsOk; kernel_rfl
theorem iter_callit {it m : Addr} {t : Tok} {Q : Value → Shared → Prop} (hit : s.heap.get? it = some (itObj m t)) (h : Q (.ref it) s) : wpAny (model prog w) A (pyIter (.ref it)) Q E s := by
  have ht : s.TypeIs (.ref it) "callable_iterator" := ⟨_, hit, rfl⟩
  refine wpAny_pyIter_slot ht slot_callit_iter (wpAny_call_entry slot_callit_iter ht entry_callit_iter ?_ (args_callit_iter _))
  show wpAny _ _ (ret (.ref it)) _ _ s
  exact wpAny_pure ⟨_, rfl, "callable_iterator", _, ht, slot_callit_next.lookup, h⟩
theorem args_iter2 (a b : Value) : argsOk "iter" ⟨[a, b], []⟩ := by unfold argsOk; kernel_rfl
theorem method_calls : ∃ r, typeLookup (.type "method") "__call__" = pure (some r) := ⟨.builtin "method.__call__", by rw [typeLookup_type, builtinLookup_eq_fast]; kernel_rfl⟩
theorem iter2_K {g : Heap} {L m : Addr} {f self : Value} {mm : Str → Option Value} {t : Tok} {news : List (Addr × Obj)} {Q : Value → Shared → Prop} (F : Fr g L s.heap mm) (N : News g L s.heap news) (hm : (m, methodObj f self) ∈ news)
    (h : ∀ I h', Fr g L h' mm → News g L h' ((I, itObj m t) :: news) → (∀ p ∈ news, p.1 < I) → Q (.ref I) { s with heap := h' }) :
    wpAny (model prog w) A (call (.builtin "iter") [.ref m, .str (Str.ofString "") t]) Q E s := by
  refine call_function_entry (by decide +kernel) (by decide +kernel) kdk_entry_iter (args_iter2 _ _) ?_
  unfold Builtin.«iter»
  refine wpAny_bind (m := someArgs "iter" 1 2 _) (wpAny_of_eq (a := [Value.ref m, Value.str (Str.ofString "") t]) (by first | rfl | kernel_rfl!) ?_)
  obtain ⟨r, hr⟩ := method_calls
  show wpAny _ _ (specialOf (.ref m) "__call__" >>= _) _ _ _
  refine wpAny_bind (wpAny_specialOf ⟨_, (N _ hm).1, rfl⟩ hr ?_)
  rw [if_neg (show ¬ ((some r).isNone = true) from Bool.false_ne_true)]
  refine wpAny_bind (wpAny_rule ?_)
  refine wpAny_bind (wpAny_newObj_type (wpAny_pure ⟨_, rfl, h _ _ (F.push _) (News.push F N _ rfl) fun q hq => Heap.lt_size (N q hq).1⟩) (by size_fits))
end
end Mine
end
section
open PySem PySem.W PyProof.Rows PySem.Spec PySem.Calls
set_option Elab.async false
namespace Mine
/-- a lexer's whitespace -/
noncomputable def isWs (c : Nat) : Bool := c == 10 || c == 9 || c == 13 || c == 32
/-- what stands behind a plain word's first sign: its further signs and how many were read -/
noncomputable def plainW : List Nat → Option (List Nat × Nat)
  | [] => none
  | c :: r => if isWs c then some ([], 1) else if c = 92 then (match r with
      | [] => none
      | d :: r' => (plainW r').map fun p => (d :: p.1, p.2 + 2)) else (plainW r).map fun p => (c :: p.1, p.2 + 1)
/-- what stands behind a quotation mark -/
noncomputable def quotW : List Nat → Option (List Nat × Nat)
  | [] => none
  | c :: r => if c = 34 then some ([], 1) else if c = 92 then (match r with
      | [] => none
      | d :: r' => (quotW r').map fun p => (d :: p.1, p.2 + 2)) else (quotW r).map fun p => (c :: p.1, p.2 + 1)
/-- a token -/
noncomputable def tokW : List Nat → Option (List Nat × Nat)
  | [] => some ([], 1)
  | c :: r => if isWs c then (tokW r).map fun p => (p.1, p.2 + 1) else if c = 34 then (quotW r).map fun p => (p.1, p.2 + 1) else if c = 92 then (match r with
      | [] => none
      | d :: r' => (plainW r').map fun p => (d :: p.1, p.2 + 2)) else (plainW r).map fun p => (c :: p.1, p.2 + 1)
/-- the line that a lexer at place k stands in -/
noncomputable def lnAt (cs : List Nat) (k : Nat) : Int := 1 + ((cs.take k).count 10 : Nat)
theorem lnAt_next (cs r : List Nat) (k : Nat) (h : r = (cs.drop k).take 1) : lnAt cs (k + 1) = lnAt cs k + (if r = [10] then 1 else 0) := by
  unfold lnAt
  have e : cs.take (k + 1) = cs.take k ++ (cs.drop k).take 1 := by rw [← List.take_append_drop k (cs.take (k + 1))]; congr 1 <;> simp [List.take_take, List.drop_take]
  rw [e, ← h, List.count_append]
  have hl : r.length ≤ 1 := by rw [h]; exact List.length_take_le ..
  cases r with
  | nil => simp
  | cons a t =>
    have ht : t = [] := by cases t with | nil => rfl | cons b u => simp at hl
    subst ht
    by_cases ha : a = 10
    · subst ha; simp; omega
    · simp [ha, List.count_cons]
end Mine
end
section
open PySem PySem.W PyProof.Rows PySem.Spec PySem.Calls
set_option Elab.async false
namespace Mine
/-- what of a lexer never changes -/
structure LexK where
  lx : Addr
  ld : Addr
  pb : Addr
  pbf : Addr
  F : FileA
  x : Str
  t3 : Tok
  t4 : Tok
  t5 : Tok
  t6 : Tok
  u1 : Tok
  u2 : Tok
  u3 : Tok
  u4 : Tok
  u5 : Tok
  u6 : Tok
  u7 : Tok
structure LexOk (w : World) (Z : LexK) : Prop where
  fn : FnObj Z.F.FO
  fo : FileO Z.F
  d : Z.F.DO = dictOf [⟨PyData.keyHash w.params (Str.ofString "lineno"), .str (Str.ofString "lineno") Z.u1, .int 1 Z.u2⟩, ⟨PyData.keyHash w.params (Str.ofString "instream"), .str (Str.ofString "instream") Z.u3, .none⟩, ⟨PyData.keyHash w.params (Str.ofString "whitespace"), .str (Str.ofString "whitespace") Z.u4, .str (Str.ofString "\n\t\r ") Z.u5⟩, ⟨PyData.keyHash w.params (Str.ofString "pushback"), .str (Str.ofString "pushback") Z.u6, .ref Z.pbf⟩, ⟨PyData.keyHash w.params (Str.ofString "read"), .str (Str.ofString "read") Z.u7, .ref Z.F.f⟩] 5
  R : ReadSpec w Z.x Z.F
  hx : Z.x.length ≤ 10000
  o7 : Z.F.f < Z.ld
  o8 : Z.ld < Z.lx
  o9 : Z.lx < Z.pb
noncomputable def lexDO (P : Params) (Z : LexK) (k : Nat) (t1 t2 : Tok) : Obj := dictOf [⟨PyData.keyHash P (Str.ofString "lineno"), .str (Str.ofString "lineno") t1, .int (lnAt Z.x.cps.toList k) t2⟩, ⟨PyData.keyHash P (Str.ofString "instream"), .str (Str.ofString "instream") Z.t3, .ref Z.F.fx⟩, ⟨PyData.keyHash P (Str.ofString "whitespace"), .str (Str.ofString "whitespace") Z.t4, .str (Str.ofString "\n\t\r ") Z.t5⟩, ⟨PyData.keyHash P (Str.ofString "pushback"), .str (Str.ofString "pushback") Z.t6, .ref Z.pb⟩] 4
noncomputable def fileDO (P : Params) (Z : LexK) : Obj := dictOf [⟨PyData.keyHash P (Str.ofString "lineno"), .str (Str.ofString "lineno") Z.u1, .int 1 Z.u2⟩, ⟨PyData.keyHash P (Str.ofString "instream"), .str (Str.ofString "instream") Z.u3, .none⟩, ⟨PyData.keyHash P (Str.ofString "whitespace"), .str (Str.ofString "whitespace") Z.u4, .str (Str.ofString "\n\t\r ") Z.u5⟩, ⟨PyData.keyHash P (Str.ofString "pushback"), .str (Str.ofString "pushback") Z.u6, .ref Z.pbf⟩, ⟨PyData.keyHash P (Str.ofString "read"), .str (Str.ofString "read") Z.u7, .ref Z.F.f⟩] 5
/-- a lexer's objects, its file's, at place k -/
noncomputable abbrev core (P : Params) (Z : LexK) (vs : List Value) (np k n0 : Nat) (t0 t1 t2 : Tok) : List (Addr × Obj) :=
  [(Z.lx, instObj 95 Z.ld), (Z.ld, lexDO P Z k t1 t2), (Z.F.fx, instObj 95 Z.F.fd), (Z.F.fd, fileDO P Z),
    (Z.F.f, Z.F.FO), (Z.F.cc, Z.F.CO), (Z.F.ct, Z.F.CT), (Z.F.cp, Z.F.CP), (Z.F.l, lstO [.int k t0] n0), (Z.pb, lstO vs np)]
theorem core_lt {w : World} {Z : LexK} {pbs : List Value} {np k n0 : Nat} {t0 t1 t2 : Tok} (Y : LexOk w Z) : ∀ p ∈ core w.params Z pbs np k n0 t0 t1 t2, p.1 ≤ Z.pb := by
  obtain ⟨q1, q2, q3, q4, q5, q6⟩ := Y.fo
  have o7 := Y.o7
  have o8 := Y.o8
  have o9 := Y.o9
  have p1 := Nat.lt_trans o8 o9
  have p2 := Nat.lt_trans o7 p1
  have p3 := Nat.lt_trans q6 p2
  have p4 := Nat.lt_trans q5 p3
  have p5 := Nat.lt_trans q4 p4
  have p6 := Nat.lt_trans q3 p5
  have p7 := Nat.lt_trans q2 p6
  have p8 := Nat.lt_trans q1 p7
  have le : ∀ {a b : Nat}, a < b → a ≤ b := fun h => Nat.le_of_lt h
  exact List.forall_mem_cons.mpr ⟨le o9, List.forall_mem_cons.mpr ⟨le p1, List.forall_mem_cons.mpr ⟨le p5, List.forall_mem_cons.mpr ⟨le p6, List.forall_mem_cons.mpr ⟨le p2, List.forall_mem_cons.mpr ⟨le p3, List.forall_mem_cons.mpr ⟨le p8, List.forall_mem_cons.mpr ⟨le p7, List.forall_mem_cons.mpr ⟨le p4, List.forall_mem_cons.mpr ⟨Nat.le_refl _, List.forall_mem_nil _⟩⟩⟩⟩⟩⟩⟩⟩⟩⟩
theorem core_upd {w : World} {g h h' : Heap} {L : Addr} {Z : LexK} {vs : List Value} {np k n0 n0' : Nat} {t0 t1 t2 t0' t1' t2' : Tok} {pre : List (Addr × Obj)} (Y : LexOk w Z) (hpre : ∀ p ∈ pre, p.1 ≠ Z.ld ∧ p.1 ≠ Z.F.l)
    (N : News g L h (pre ++ core w.params Z vs np k n0 t0 t1 t2)) (B : But [Z.ld, Z.F.l] h h') (e1 : h'.get? Z.F.l = some (lstO [.int (k + 1 : Nat) t0'] n0'))
    (e2 : h'.get? Z.ld = some (dictOf [⟨PyData.keyHash w.params (Str.ofString "lineno"), .str (Str.ofString "lineno") t1', .int (lnAt Z.x.cps.toList (k + 1)) t2'⟩, ⟨PyData.keyHash w.params (Str.ofString "instream"), .str (Str.ofString "instream") Z.t3, .ref Z.F.fx⟩, ⟨PyData.keyHash w.params (Str.ofString "whitespace"), .str (Str.ofString "whitespace") Z.t4, .str (Str.ofString "\n\t\r ") Z.t5⟩, ⟨PyData.keyHash w.params (Str.ofString "pushback"), .str (Str.ofString "pushback") Z.t6, .ref Z.pb⟩] 4)) :
    News g L h' (pre ++ core w.params Z vs np (k + 1) n0' t0' t1' t2') := by
  obtain ⟨q1, q2, q3, q4, q5, q6⟩ := Y.fo
  have o7 := Y.o7
  have o8 := Y.o8
  have o9 := Y.o9
  have lf := Nat.lt_trans q5 q6
  have lld := Nat.lt_trans lf o7
  have llx := Nat.lt_trans lld o8
  have xd := Nat.lt_trans q4 lld
  have fdl := Nat.lt_trans q3 q4
  have cpl := Nat.lt_trans q2 fdl
  have ctl := Nat.lt_trans q1 cpl
  have keep : ∀ p ∈ pre ++ core w.params Z vs np k n0 t0 t1 t2, p.1 ≠ Z.ld → p.1 ≠ Z.F.l → h'.get? p.1 = some p.2 ∧ p.1 ≠ L ∧ g.get? p.1 = none := fun p hp n1 n2 =>
    ⟨B.get _ _ (fun q => by rcases List.mem_cons.mp q with q | q; exact n1 q; exact n2 (List.mem_singleton.mp q)) (N p hp).1, (N p hp).2⟩
  have C : ∀ p ∈ core w.params Z vs np k n0 t0 t1 t2, p ∈ pre ++ core w.params Z vs np k n0 t0 t1 t2 := fun p hp => List.mem_append_right _ hp
  intro p hp
  rcases List.mem_append.mp hp with hp | hp
  · exact keep p (List.mem_append_left _ hp) (hpre p hp).1 (hpre p hp).2
  rcases List.mem_cons.mp hp with rfl | hp
  · exact keep _ (C _ (List.Mem.head _)) (Nat.ne_of_gt o8) (Nat.ne_of_gt llx)
  rcases List.mem_cons.mp hp with rfl | hp
  · exact ⟨e2, (N _ (C _ (List.Mem.tail _ (List.Mem.head _)))).2⟩
  rcases List.mem_cons.mp hp with rfl | hp
  · exact keep _ (C _ (by k_mem)) (Nat.ne_of_lt xd) (Nat.ne_of_lt q4)
  rcases List.mem_cons.mp hp with rfl | hp
  · exact keep _ (C _ (by k_mem)) (Nat.ne_of_lt (Nat.lt_trans q3 xd)) (Nat.ne_of_lt fdl)
  rcases List.mem_cons.mp hp with rfl | hp
  · exact keep _ (C _ (by k_mem)) (Nat.ne_of_lt o7) (Nat.ne_of_gt lf)
  rcases List.mem_cons.mp hp with rfl | hp
  · exact keep _ (C _ (by k_mem)) (Nat.ne_of_lt (Nat.lt_trans q6 o7)) (Nat.ne_of_gt q5)
  rcases List.mem_cons.mp hp with rfl | hp
  · exact keep _ (C _ (by k_mem)) (Nat.ne_of_lt (Nat.lt_trans ctl lld)) (Nat.ne_of_lt ctl)
  rcases List.mem_cons.mp hp with rfl | hp
  · exact keep _ (C _ (by k_mem)) (Nat.ne_of_lt (Nat.lt_trans cpl lld)) (Nat.ne_of_lt cpl)
  rcases List.mem_cons.mp hp with rfl | hp
  · exact ⟨e1, (led_nl N (C (Z.F.l, lstO [.int k t0] n0) (by k_mem)))⟩
  rcases List.mem_singleton.mp hp with rfl
  exact keep _ (C _ (by k_mem)) (Nat.ne_of_gt (Nat.lt_trans o8 o9)) (Nat.ne_of_gt (Nat.lt_trans llx o9))
end Mine
end
section
open PySem PySem.W PyProof.Rows PySem.Spec PySem.Calls
set_option Elab.async false
namespace Mine
theorem one_len {r : Str} {l : List Nat} (h : r.cps.toList = l.take 1) : r.length ≤ 1 := by
  show r.cps.size ≤ 1
  rw [← Array.length_toList, h]; exact List.length_take_le ..
theorem one_len' {r : Str} {c : Nat} (h : r.cps.toList = [c]) : r.length ≤ 1 := by
  show r.cps.size ≤ 1
  rw [← Array.length_toList, h]; exact Nat.le_refl _
theorem fill_step2 : hd.heap_1 = hd.heap_1 ∧ PySem.Challenge.rw_pg0177_01 = PySem.Challenge.rw_pg0177_01 := by k_fill; exact ⟨rfl, rfl⟩
theorem fn_lookup {K : Frag} {g : Heap} {f : Addr} {oc : Value} {od : Option Addr} {osl : Array (Option Value)} {name qual : Str} {params : Arguments} {body : List Stmt} {scope : Scope} {dV kV doc pm cdv ct : Value} {an : Option Addr} (X : K.In g)
    (e : K.lookup f = some ⟨oc, od, .func (fnOf name qual params body scope dV kV doc pm an cdv ct), osl⟩) : ∃ o fd, g.get? f = some o ∧ o.data = .func fd := ⟨_, _, X _ _ e, rfl⟩
set_option maxRecDepth 100000 in
theorem fn78 {w : World} {g : Heap} (X : (hd.heap_1 w.params).In g) : ∃ o fd, g.get? 78 = some o ∧ o.data = .func fd := by
  refine' fn_lookup X ?k
  case k => k_is
section
variable {p : Program} {loose : List Str} {mean : ExcName → Option Value} {mg mb : Str → Option Value} {w : World} {A : Around} {s : Shared} {E : Value → Shared → Prop} {g : Heap} {L : Addr} {m : Str → Option Value}
  {Z : LexK} {vs : List Value} {np k n0 : Nat} {t0 t1 t2 : Tok} {pre : List (Addr × Obj)}
/-- one sign read, by the ledger -/
theorem rc_step {Q : Value → Shared → Prop} (Y : LexOk w Z) (F : Fr g L s.heap m) (N : News g L s.heap (pre ++ core w.params Z vs np k n0 t0 t1 t2)) (X : (hd.heap_1 w.params).In g) (T : Top p loose mean mg mb g)
    (hpre : ∀ p ∈ pre, p.1 ≠ Z.ld ∧ p.1 ≠ Z.F.l) (hdp : A.depth + 30 < recursionLimit) (hun : A.units + 300 < cLine) (hk : k ≤ 60000)
    (h : ∀ (r : Str) h' tk' n' t0' t1' t2' t, Fr g L h' m → News g L h' (pre ++ core w.params Z vs np (k + 1) n' t0' t1' t2') → r.cps.toList = (Z.x.cps.toList.drop k).take 1 → Q (.str r t) { s with heap := h', toks := tk' }) :
    codeAny (model PySem.Challenge.pw_pg0177_01 w) A (.call (.ref 78) ⟨[.ref Z.lx], []⟩) (fun r s' => match r with | .ok (.ret v) => Q v s' | .ok _ => False | .error e => E e s') s := by
  have C : ∀ p ∈ core w.params Z vs np k n0 t0 t1 t2, p ∈ pre ++ core w.params Z vs np k n0 t0 t1 t2 := fun p hp => List.mem_append_right _ hp
  refine lexRc (F := Z.F) (F.keep) X T hdp hun (led_get N (C _ (by k_mem))) (led_get N (C _ (by k_mem)))
    (fileAt_of N Y.d (C _ (by k_mem)) (C _ (by k_mem)) (C _ (by k_mem)) (C _ (by k_mem)) (C _ (by k_mem)) (C _ (by k_mem))) Y.fn Y.fo Y.d (led_get N (C (Z.F.l, lstO [.int k t0] n0) (by k_mem))) Y.R (by omega) Y.hx Y.o7 Y.o8 Y.o9 ?_ ?_
  · intro a ha
    rcases List.mem_cons.mp ha with rfl | ha
    · exact led_none N (C (Z.lx, instObj 95 Z.ld) (by k_mem))
    rcases List.mem_cons.mp ha with rfl | ha
    · exact (N _ (C _ (List.Mem.tail _ (List.Mem.head _)))).2.2
    rcases List.mem_cons.mp ha with rfl | ha
    · exact led_none N (C (Z.F.fx, instObj 95 Z.F.fd) (by k_mem))
    rcases List.mem_cons.mp ha with rfl | ha
    · exact (N _ (C _ (List.Mem.tail _ (List.Mem.tail _ (List.Mem.tail _ (List.Mem.head _)))))).2.2
    rcases List.mem_cons.mp ha with rfl | ha
    · exact led_none N (C (Z.F.f, Z.F.FO) (by k_mem))
    rcases List.mem_cons.mp ha with rfl | ha
    · exact led_none N (C (Z.F.cc, Z.F.CO) (by k_mem))
    rcases List.mem_cons.mp ha with rfl | ha
    · exact led_none N (C (Z.F.ct, Z.F.CT) (by k_mem))
    rcases List.mem_cons.mp ha with rfl | ha
    · exact led_none N (C (Z.F.cp, Z.F.CP) (by k_mem))
    rcases List.mem_singleton.mp ha with rfl
    exact led_none N (C (Z.F.l, lstO [.int k t0] n0) (by k_mem))
  · intro r h' tk' ln' t0' t1' t2' n' t B e1 e2 hr hln
    rw [← lnAt_next _ _ _ hr] at hln
    subst hln
    refine h r h' tk' n' t0' t1' t2' t (Fr.but F B fun a ha => ?_) (core_upd Y hpre N B e1 e2) hr
    rcases List.mem_cons.mp ha with rfl | ha
    · exact (N _ (C _ (List.Mem.tail _ (List.Mem.head _)))).2
    rcases List.mem_singleton.mp ha with rfl
    exact (led_nl N (C (Z.F.l, lstO [.int k t0] n0) (by k_mem)))
/-- the iterator's next -/
theorem it_next {I M : Addr} {ti : Tok} {Q : Option Value → Shared → Prop} (Y : LexOk w Z) (F : Fr g L s.heap m) (N : News g L s.heap ((I, itObj M ti) :: (M, methodObj (.ref 78) (.ref Z.lx)) :: core w.params Z vs np k n0 t0 t1 t2)) (X : (hd.heap_1 w.params).In g) (T : Top p loose mean mg mb g)
    (hI : Z.pb < I) (hM : Z.pb < M) (hIM : M < I) (hh : A.handled = none) (hdp : A.depth + 30 < recursionLimit) (hun : A.units + 310 < cLine) (hk : k ≤ 60000)
    (hend : Z.x.cps.toList.drop k = [] → ∀ h' tk' n' t0' t1' t2', Fr g L h' m → News g L h' ((I, itEnd) :: (M, methodObj (.ref 78) (.ref Z.lx)) :: core w.params Z vs np (k + 1) n' t0' t1' t2') → Q none { s with heap := h', toks := tk' })
    (hgo : ∀ c rest, Z.x.cps.toList.drop k = c :: rest → ∀ (r : Str) h' tk' n' t0' t1' t2' t, r.cps.toList = [c] → Fr g L h' m → News g L h' ((I, itObj M ti) :: (M, methodObj (.ref 78) (.ref Z.lx)) :: core w.params Z vs np (k + 1) n' t0' t1' t2') → Q (some (.str r t)) { s with heap := h', toks := tk' }) :
    wpAny (model PySem.Challenge.pw_pg0177_01 w) A (pyNext (.ref I)) Q E s := by
  have o7 := Y.o7
  have o8 := Y.o8
  have o9 := Y.o9
  obtain ⟨q1, q2, q3, q4, q5, q6⟩ := Y.fo
  replace q1 := ltN q1; replace q2 := ltN q2; replace q3 := ltN q3; replace q4 := ltN q4; replace q5 := ltN q5; replace q6 := ltN q6; replace o7 := ltN o7; replace o8 := ltN o8; replace o9 := ltN o9
  replace hI := ltN hI; replace hM := ltN hM; replace hIM := ltN hIM
  obtain ⟨o, fd, hfo, hfd⟩ := fn78 X
  refine next_call hh (led_get N (by k_mem)) (led_get N (by k_mem)) ⟨o, fd, F.keep _ _ hfo, hfd⟩ (codeAny_mono (rc_step (E := fun _ _ => False) (Q := fun v s' => ∃ x t', v = .str x t' ∧ s'.heap.get? I = some (itObj M ti) ∧ s'.heap.get? M = some (methodObj (.ref 78) (.ref Z.lx)) ∧ (∃ o fd, s'.heap.get? 78 = some o ∧ o.data = .func fd) ∧
          (x ≠ Str.ofString "" → Q (some v) s') ∧ (x = Str.ofString "" → ∀ h', But [I] s'.heap h' → h'.get? I = some itEnd → Q none { s' with heap := h' }))
    (pre := [(I, itObj M ti), (M, methodObj (.ref 78) (.ref Z.lx))]) Y F N X T ?_ (by dsimp only [Around.in1]; omega) (by dsimp only [Around.in1]; omega) hk ?_) fun r s' hr => ?_)
  · have c1 := Nat.lt_trans o8 o9
    have c2 := Nat.lt_trans q5 (Nat.lt_trans q6 (Nat.lt_trans o7 c1))
    exact List.forall_mem_cons.mpr ⟨⟨Nat.ne_of_gt (Nat.lt_trans c1 hI), Nat.ne_of_gt (Nat.lt_trans c2 hI)⟩, List.forall_mem_cons.mpr ⟨⟨Nat.ne_of_gt (Nat.lt_trans c1 hM), Nat.ne_of_gt (Nat.lt_trans c2 hM)⟩, List.forall_mem_nil _⟩⟩
  · intro r h' tk' n' t0' t1' t2' t F' N' hr
    refine ⟨r, t, rfl, led_get N' (by k_mem), led_get N' (by k_mem), ⟨o, fd, F'.keep _ _ hfo, hfd⟩, fun hne => ?_, fun he h2 B e => ?_⟩
    · cases hc : Z.x.cps.toList.drop k with
      | nil => rw [hc] at hr; exact absurd (by cases r with | mk c => exact congrArg Str.mk (Array.toList_inj.mp (hr.trans (by decide +kernel : ([] : List Nat).take 1 = (Str.ofString "").cps.toList)))) hne
      | cons c rest => rw [hc] at hr; exact hgo c rest hc r h' tk' n' t0' t1' t2' t hr F' N'
    · cases hc : Z.x.cps.toList.drop k with
      | cons c rest => rw [hc, he] at hr; exact absurd hr (by rw [show (Str.ofString "").cps.toList = [] by decide +kernel]; exact fun q => nomatch q)
      | nil =>
        refine hend hc h2 tk' n' t0' t1' t2' (fr_chg F' B (led_nl N' (o := itObj M ti) (by k_mem))) ?_
        exact led_upd N' (UpdF.head (List.forall_mem_cons.mpr ⟨Nat.ne_of_lt hIM, fun p hp => Nat.ne_of_lt (Nat.lt_of_le_of_lt (core_lt Y p hp) hI)⟩)) B e id
  · cases r with
    | error e => exact hr.elim
    | ok fl => cases fl with
      | ret v => exact hr
      | _ => exact hr.elim
end
end Mine
end
section
open PySem PySem.W PyProof.Rows PySem.Spec PySem.Calls
set_option Elab.async false
namespace Mine
theorem str_one {r : Str} {c : Nat} (h : r.cps.toList = [c]) : r = ⟨#[c]⟩ := by cases r with | mk a => exact congrArg Str.mk (Array.toList_inj.mp h)
theorem ws_of {r : Str} {c : Nat} {b : Bool} (h : r.cps.toList = [c]) (e : (Builtin.Str.occurrences (Str.ofString "\n\t\x0d ") r 0 (Str.ofString "\n\t\x0d ").length 1).isEmpty = b) : isWs c = !b := by
  rw [str_one h] at e
  have := PySem.StrLaws.found_one (Str.ofString "\n\t\x0d ") c
  rw [e] at this
  rw [this, show (Str.ofString "\n\t\x0d ").cps.toList = [10, 9, 13, 32] by decide +kernel]
  unfold isWs
  by_cases h1 : c = 10 <;> by_cases h2 : c = 9 <;> by_cases h3 : c = 13 <;> by_cases h4 : c = 32 <;> simp [h1, h2, h3, h4]
theorem quo_of {r : Str} {c : Nat} {b : Bool} (h : r.cps.toList = [c]) (e : (r == Str.ofString "\"") = b) : decide (c = 34) = b := by
  rw [str_one h] at e
  rw [← e, show Str.ofString "\"" = ⟨#[34]⟩ by decide +kernel]
  by_cases q : c = 34
  · subst q; decide +kernel
  · rw [decide_eq_false q]; symm; exact beq_eq_false_iff_ne.mpr (fun z => q (by injection z with z; injection z with z; injection z))
theorem esc_of {r : Str} {c : Nat} {b : Bool} (h : r.cps.toList = [c]) (e : (r == Str.ofString "\\") = b) : decide (c = 92) = b := by
  rw [str_one h] at e
  rw [← e, show Str.ofString "\\" = ⟨#[92]⟩ by decide +kernel]
  by_cases q : c = 92
  · subst q; decide +kernel
  · rw [decide_eq_false q]; symm; exact beq_eq_false_iff_ne.mpr (fun z => q (by injection z with z; injection z with z; injection z))
section
variable {c j : Nat} {rest tok : List Nat}
theorem tok_ws (h : tokW (c :: rest) = some (tok, j)) (e : isWs c = true) : ∃ j', tokW rest = some (tok, j') ∧ j = j' + 1 := by
  unfold tokW at h; rw [if_pos e] at h
  cases q : tokW rest with
  | none => rw [q] at h; cases h
  | some p => rw [q] at h; cases h; exact ⟨p.2, rfl, rfl⟩
theorem tok_quo (h : tokW (c :: rest) = some (tok, j)) (e : isWs c = false) (e2 : c = 34) : ∃ j', quotW rest = some (tok, j') ∧ j = j' + 1 := by
  unfold tokW at h; rw [if_neg (by rw [e]; exact Bool.false_ne_true), if_pos e2] at h
  cases q : quotW rest with
  | none => rw [q] at h; cases h
  | some p => rw [q] at h; cases h; exact ⟨p.2, rfl, rfl⟩
theorem tok_esc (h : tokW (c :: rest) = some (tok, j)) (e : isWs c = false) (e2 : c ≠ 34) (e3 : c = 92) : ∃ d r' b j', rest = d :: r' ∧ plainW r' = some (b, j') ∧ tok = d :: b ∧ j = j' + 2 := by
  unfold tokW at h; rw [if_neg (by rw [e]; exact Bool.false_ne_true), if_neg e2, if_pos e3] at h
  cases rest with
  | nil => cases h
  | cons d r' =>
    cases q : plainW r' with
    | none => simp only [q] at h; cases h
    | some p => simp only [q] at h; cases h; exact ⟨d, r', p.1, p.2, rfl, q, rfl, rfl⟩
theorem tok_go (h : tokW (c :: rest) = some (tok, j)) (e : isWs c = false) (e2 : c ≠ 34) (e3 : c ≠ 92) : ∃ b j', plainW rest = some (b, j') ∧ tok = c :: b ∧ j = j' + 1 := by
  unfold tokW at h; rw [if_neg (by rw [e]; exact Bool.false_ne_true), if_neg e2, if_neg e3] at h
  cases q : plainW rest with
  | none => rw [q] at h; cases h
  | some p => rw [q] at h; cases h; exact ⟨p.1, p.2, rfl, rfl, rfl⟩
theorem plain_ws (h : plainW (c :: rest) = some (tok, j)) (e : isWs c = true) : tok = [] ∧ j = 1 := by
  unfold plainW at h; rw [if_pos e] at h; cases h; exact ⟨rfl, rfl⟩
theorem plain_esc (h : plainW (c :: rest) = some (tok, j)) (e : isWs c = false) (e3 : c = 92) : ∃ d r' b j', rest = d :: r' ∧ plainW r' = some (b, j') ∧ tok = d :: b ∧ j = j' + 2 := by
  unfold plainW at h; rw [if_neg (by rw [e]; exact Bool.false_ne_true), if_pos e3] at h
  cases rest with
  | nil => cases h
  | cons d r' =>
    cases q : plainW r' with
    | none => simp only [q] at h; cases h
    | some p => simp only [q] at h; cases h; exact ⟨d, r', p.1, p.2, rfl, q, rfl, rfl⟩
theorem plain_go (h : plainW (c :: rest) = some (tok, j)) (e : isWs c = false) (e3 : c ≠ 92) : ∃ b j', plainW rest = some (b, j') ∧ tok = c :: b ∧ j = j' + 1 := by
  unfold plainW at h; rw [if_neg (by rw [e]; exact Bool.false_ne_true), if_neg e3] at h
  cases q : plainW rest with
  | none => rw [q] at h; cases h
  | some p => rw [q] at h; cases h; exact ⟨p.1, p.2, rfl, rfl, rfl⟩
theorem quot_end (h : quotW (c :: rest) = some (tok, j)) (e : c = 34) : tok = [] ∧ j = 1 := by
  unfold quotW at h; rw [if_pos e] at h; cases h; exact ⟨rfl, rfl⟩
theorem quot_esc (h : quotW (c :: rest) = some (tok, j)) (e : c ≠ 34) (e3 : c = 92) : ∃ d r' b j', rest = d :: r' ∧ quotW r' = some (b, j') ∧ tok = d :: b ∧ j = j' + 2 := by
  unfold quotW at h; rw [if_neg e, if_pos e3] at h
  cases rest with
  | nil => cases h
  | cons d r' =>
    cases q : quotW r' with
    | none => simp only [q] at h; cases h
    | some p => simp only [q] at h; cases h; exact ⟨d, r', p.1, p.2, rfl, q, rfl, rfl⟩
theorem quot_go (h : quotW (c :: rest) = some (tok, j)) (e : c ≠ 34) (e3 : c ≠ 92) : ∃ b j', quotW rest = some (b, j') ∧ tok = c :: b ∧ j = j' + 1 := by
  unfold quotW at h; rw [if_neg e, if_neg e3] at h
  cases q : quotW rest with
  | none => rw [q] at h; cases h
  | some p => rw [q] at h; cases h; exact ⟨p.1, p.2, rfl, rfl, rfl⟩
end
theorem drop_next {cs : List Nat} {k c : Nat} {rest : List Nat} (h : cs.drop k = c :: rest) : cs.drop (k + 1) = rest := by
  rw [show k + 1 = k + 1 from rfl, ← List.drop_drop, h]; rfl
theorem drop_lt {cs : List Nat} {k c : Nat} {rest : List Nat} (h : cs.drop k = c :: rest) : k < cs.length := by
  apply Nat.lt_of_not_le; intro q; rw [List.drop_eq_nil_of_le q] at h; cases h
theorem add_one {a r : Str} {c : Nat} (h : r.cps.toList = [c]) : (a ++ r).cps.toList = a.cps.toList ++ [c] := by
  rw [← h]; exact Array.toList_append
section
variable {a b c k K : Nat}
theorem le_k (h : k + b = K) (hK : K ≤ 50000) : k ≤ 50000 := Nat.le_trans (Nat.le.intro h) hK
theorem dec1 (h : k ≤ 50000) : 50001 - (k + 1) < 50001 - k := by omega
theorem dec2 (h : k ≤ 50000) : 50001 - (k + 1 + 1) < 50001 - k := by omega
theorem adv1 (h : k + b = K) (e : b = c + 1) : k + 1 + c = K := by omega
theorem adv2 (h : k + b = K) (e : b = c + 2) : k + 1 + 1 + c = K := by omega
theorem end1 (h : k + b = K) (e : b = 1) : k + 1 = K := by omega
theorem k60 (h : k + b = K) (hK : K ≤ 50000) : k ≤ 60000 := Nat.le_trans (le_k h hK) (by decide)
theorem k61 (h : k + b = K) (hK : K ≤ 50000) : k + 1 ≤ 60000 := Nat.le_trans (Nat.succ_le_succ (le_k h hK)) (by decide)
theorem len1 {x y : Str} (h : x.length ≤ k) (hy : y.length ≤ 1) : (x ++ y).length ≤ k + 1 := by rw [Str.length_append]; exact Nat.add_le_add h hy
theorem len2 {x y : Str} (h : x.length ≤ k) (hy : y.length ≤ 1) : (x ++ y).length ≤ k + 1 + 1 := Nat.le_succ_of_le (len1 h hy)
theorem len0 {x y : Str} (h : x.length = 0) (hy : y.length ≤ 1) : (x ++ y).length ≤ k + 1 := len1 (h ▸ Nat.zero_le _) hy
theorem len02 {x y : Str} (h : x.length = 0) (hy : y.length ≤ 1) : (x ++ y).length ≤ k + 1 + 1 := len2 (h ▸ Nat.zero_le _) hy
end
end Mine
end
section
open PySem PySem.W PyProof.Rows PySem.Spec PySem.Calls
set_option Elab.async false
namespace Mine
/-- a mark: the walk stops at the next if that asks for a backslash -/
structure StopEsc : Prop where
theorem merge_next {M : Model} {A : Around} {E : Value → Shared → Prop} {Q : Flow → Shared → Prop} {st : Shared} {stmt : Stmt} {env : Env} (P : Heap → Prop)
    (h1 : wpAny M A (exec stmt env) (fun f s' => ∃ h' tk', f = .next ∧ s' = { st with heap := h', toks := tk' } ∧ P h') E st) (h2 : ∀ h' tk', P h' → Q .next { st with heap := h', toks := tk' }) : wpAny M A (exec stmt env) Q E st :=
  wpAny_mono h1 (fun f s' q => by obtain ⟨h', tk', rfl, rfl, K⟩ := q; exact h2 h' tk' K) fun _ _ q => q
theorem fill_lexTok : hd.heap_1 = hd.heap_1 ∧ PySem.Challenge.rw_pg0177_01 = PySem.Challenge.rw_pg0177_01 := by k_fill; exact ⟨rfl, rfl⟩
set_option pp.maxSteps 900
set_option pp.deepTerms.threshold 6
set_option linter.unusedVariables false
set_option maxRecDepth 100000 in
set_option maxHeartbeats 8000000 in
theorem lexTok {p : Program} {loose : List Str} {mean : ExcName → Option Value} {mg mb : Str → Option Value} {w : World}
    {dp un : Nat} {fr : List Env} {gd : Option (List Code)} {s : Shared} {Q E : Value → Shared → Prop} {g : Heap}
    {Z : LexK} {np k n0 j : Nat} {t0 t1 t2 : Tok} {tok : List Nat}
    (st : g.StaysIn s.heap) (X : (hd.heap_1 w.params).In g) (T : Top p loose mean mg mb g)
    (hdp : dp + 60 < recursionLimit) (hun : un + 600 < cLine)
    (Y : LexOk w Z) (hobz : ∀ p ∈ core w.params Z [] np k n0 t0 t1 t2, s.heap.get? p.1 = some p.2 ∧ g.get? p.1 = none) (htok : tokW (Z.x.cps.toList.drop k) = some (tok, j)) (hkj : k + j ≤ 50000)
    (hret : ∀ (r : Str) h' tk' n' t0' t1' t2' t, But [Z.ld, Z.F.l] s.heap h' → (∀ p ∈ core w.params Z [] np (k + j) n' t0' t1' t2', h'.get? p.1 = some p.2) → r.cps.toList = tok → Q (.str r t) { s with heap := h', toks := tk' }) :
    wpAny (model PySem.Challenge.pw_pg0177_01 w) (arnd dp un fr gd) (call (.ref 85) [.ref Z.lx] []) Q E s := by
  w_top off
  k_with_none
  k_with "storeName" => (k_here; (with_reducible first | refine tok_int ?_ | refine tok_int2 ?_ | refine tok_str ?_ | refine tok_float ?_); intro tk')
  k_with "execs cons" => k_fold
  k_with "Exists" => (refine stop_here ?_)
  k_with "call ref" => ((rename News _ _ _ _ => N'); (rename Fr _ _ _ _ => F'); (rename LexOk _ _ => Y'); (refine wpAny_call (rc_step (pre := [_, _]) Y' F' N' (by assumption) (by assumption) (List.forall_mem_cons.mpr ⟨⟨by first | exact nIa | exact nIb | exact nMa | exact nMb | k_ne, by first | exact nIa | exact nIb | exact nMa | exact nMb | k_ne⟩, List.forall_mem_cons.mpr ⟨⟨by first | exact nIa | exact nIb | exact nMa | exact nMb | k_ne, by first | exact nIa | exact nIb | exact nMa | exact nMb | k_ne⟩, List.forall_mem_nil _⟩⟩) (by dsimp only [arnd, Around.deeper]; first | exact room2 (by assumption) (by decide) | omega) (by dsimp only [arnd, Around.deeper]; first | exact room2 (by assumption) (by decide) | omega) (by first | exact k60 hj hkj | exact k61 hj hkj | omega) ?_)); clear N' F'; intro r' h' tk' n' t0' t1' t2' t' F' N' hr'; (have hrl := one_len hr'); (dsimp only [core, lexDO, List.cons_append, List.nil_append] at N'))
  k_with "exec For Name Name cons nil" => (refine stop_here ?_)
  k_with "exec If Compare cons nil" => ((with_reducible rename StopEsc => hs'); (with_reducible show wpAny _ _ (exec (Stmt.If (Expr.Compare _ _ [Expr.Constant (Const.str (Str.ofString "\\")) _ _] _) _ [] _) _) _ _ _); refine stop_here ?_)
  k_with "call builtin:iter" => ((rename News _ _ _ _ => N'); (rename Fr _ _ _ _ => F'); (refine iter2_K F' N' (by k_mem) ?_); clear N' F'; intro I1 hq3 F' N' lI; (try k_lt lI))
  have hob : ∀ p ∈ (core w.params Z [] np k n0 t0 t1 t2 : List (Addr × Obj)), s.heap.get? p.1 = some p.2 ∧ g.get? p.1 = none := hobz
  refine' entered (args := ⟨[.ref Z.lx], []⟩) (ob := core w.params Z [] np k n0 t0 t1 t2) ?k8 st X T ?kO ?k6 ?k7 ?k9 ?kB ?_ ?c2 ?c3 ?c4 ?c5
  case k8 => exact room0 hdp
  case kO => exact hob
  case k6 => k_is
  case k7 => k_is
  case k9 => first | exact BindsTo.of_eq rfl | exact binds_K (X.keeps st) rfl (by k_is) rfl rfl rfl
  case kB => exact locs rfl
  case c2 => exact rfl
  case c3 => exact rfl
  case c4 => exact rfl
  case c5 => decide
  intro g' L' h' hz eL hS hO X' T' F' N'
  clear X T st
  try dsimp only
  show wpAny _ _ _ _ _ _
  k_fold
  dsimp only [core, lexDO] at N'
  have o9 := Y.o9
  have o8 := Y.o8
  have o7 := Y.o7
  obtain ⟨q1, q2, q3, q4, q5, q6⟩ := Y.fo
  replace q1 := ltN q1; replace q2 := ltN q2; replace q3 := ltN q3; replace q4 := ltN q4; replace q5 := ltN q5; replace q6 := ltN q6; replace o7 := ltN o7; replace o8 := ltN o8; replace o9 := ltN o9
  k_steps
  refine stop_out ?_
  rename News _ _ _ _ => N
  rename Fr _ _ _ _ => F
  rename_i hq1 M1 hq2 lM hq4
  refine wpAny_For ?_
  k_steps
  refine iter_callit (led_get N (List.Mem.head _)) ?_
  have LM : Z.pb < M1 := by refine ltN ?_; omega
  have LI : Z.pb < I1 := by refine ltN ?_; omega
  have LMI : M1 < I1 := by refine ltN ?_; omega
  have nIa : I1 ≠ Z.ld := Nat.ne_of_gt (Nat.lt_trans (Nat.lt_trans o8 o9) LI)
  have nIb : I1 ≠ Z.F.l := Nat.ne_of_gt (Nat.lt_trans (Nat.lt_trans q5 (Nat.lt_trans q6 (Nat.lt_trans o7 (Nat.lt_trans o8 o9)))) LI)
  have nMa : M1 ≠ Z.ld := Nat.ne_of_gt (Nat.lt_trans (Nat.lt_trans o8 o9) LM)
  have nMb : M1 ≠ Z.F.l := Nat.ne_of_gt (Nat.lt_trans (Nat.lt_trans q5 (Nat.lt_trans q6 (Nat.lt_trans o7 (Nat.lt_trans o8 o9)))) LM)
  obtain ⟨vI, N⟩ : ∃ v, News g' L' _ ((I1, itObj M1 v) :: (M1, methodObj (.ref 78) (.ref Z.lx)) :: core w.params Z [] np k n0 t0 t1 t2) := ⟨_, N⟩
  let Inv1 : Nat → Shared → Prop := fun n s' => ∃ k' j' n0' t0' t1' t2' h' tk' m' t', s' = { s with heap := h', toks := tk' } ∧ n = 50001 - k' ∧ k' + j' = k + j ∧ tokW (Z.x.cps.toList.drop k') = some (tok, j') ∧
    Told ([(Str.ofString "self", Value.ref Z.lx), (Str.ofString "token", .str (Str.ofString "") t'), (Str.ofString "fiter", .ref I1)] : List (Str × Value)) m' ∧ Fr g' L' h' m' ∧
    News g' L' h' ((I1, itObj M1 vI) :: (M1, methodObj (.ref 78) (.ref Z.lx)) :: core w.params Z [] np k' n0' t0' t1' t2')
  refine codeAny_forLoop Inv1 ?turn _ ⟨k, j, _, _, _, _, _, _, _, _, rfl, rfl, rfl, htok, told_cons rfl (told_cons rfl (told_cons rfl told_nil)), F, N⟩
  clear lM lI htok N F
  rintro n s₁ ⟨k', j', n0', t0', t1', t2', h', tk', m', t', rfl, rfl, hj, ht, hm, F₁, N₁⟩
  replace F₁ := Fr.named _ F₁ hm
  dsimp only [nm] at F₁
  refine it_next Y F₁ N₁ X' T' LI LM LMI rfl (by dsimp only [arnd, Around.deeper]; first | exact room2 (by assumption) (by decide) | omega) (by dsimp only [arnd, Around.deeper]; first | exact room2 (by assumption) (by decide) | omega) (k60 hj hkj) ?hend ?hgo
  case hend =>
    intro hc h' tk' n' t0'' t1'' t2'' F₂ N₂
    clear F₁ N₁
    dsimp only [core, lexDO] at N₂
    rw [hc] at ht
    have ht2 : some (([] : List Nat), 1) = some (tok, j') := by rw [← ht]; unfold tokW; rfl
    cases ht2
    k_steps
    rename News _ _ _ _ => N
    rename Fr _ _ _ _ => F
    show Q _ _
    have ek1 : k' + 1 = k + j := hj
    rw [ek1] at N
    refine hret _ _ _ _ _ _ _ _ ((But.ofFr F hz hS).led hobz ?_) (fun p hp => (N p (List.Mem.tail _ (List.Mem.tail _ hp))).1) ?_
    · repeat' (first | exact List.forall_mem_nil _ | refine List.forall_mem_cons.mpr ⟨?_, ?_⟩ | exact fun _ => (N _ (by k_mem)).1 | exact fun q => absurd (List.Mem.head _) q | exact fun q => absurd (List.Mem.tail _ (List.Mem.head _)) q | exact fun q => absurd (List.Mem.tail _ (List.Mem.tail _ (List.Mem.head _))) q)
    · decide +kernel
  intro c rest hc r h' tk' n' t0'' t1'' t2'' t hr F₂ N₂
  clear F₁ N₁
  have hrl := one_len' hr
  rw [hc] at ht
  have hdn := drop_next hc
  have hz0 : (Str.ofString "").length = 0 := by decide +kernel
  have hz1 : (Str.ofString "").cps.toList = [] := by decide +kernel
  replace LI := ltN LI; replace LM := ltN LM; replace LMI := ltN LMI
  dsimp only [core, lexDO] at N₂
  have sx : StopEsc := .mk
  k_steps
  · clear sx
    have hws := ws_of (b := true) hr (by assumption)
    have hq := quo_of (b := true) hr (by assumption)
    obtain ⟨j1, hpl, hj1⟩ := tok_quo ht hws (of_decide_eq_true hq)
    rw [← hdn] at hpl
    refine stop_out ?_
    rename LexOk _ _ => Y
    rename News _ _ _ _ => N
    rename Fr _ _ _ _ => F
    refine wpAny_For ?_
    k_steps
    refine iter_callit (led_get N (List.Mem.head _)) ?_
    let Inv2 : Nat → Shared → Prop := fun n s' => ∃ k2 j2 b a tka n0' t0' t1' t2' h' tk' m', s' = { s with heap := h', toks := tk' } ∧ n = 50001 - k2 ∧ k2 + j2 = k + j ∧ quotW (Z.x.cps.toList.drop k2) = some (b, j2) ∧ (Str.cps a).toList ++ b = tok ∧ a.length ≤ k2 ∧
      Told ([(Str.ofString "self", Value.ref Z.lx), (Str.ofString "token", .str a tka), (Str.ofString "fiter", .ref I1)] : List (Str × Value)) m' ∧ Fr g' L' h' m' ∧
      News g' L' h' ((I1, itObj M1 vI) :: (M1, methodObj (.ref 78) (.ref Z.lx)) :: core w.params Z [] np k2 n0' t0' t1' t2')
    refine codeAny_forLoop Inv2 ?turnQ _ ⟨k' + 1, j1, tok, _, _, _, _, _, _, _, _, _, rfl, rfl, adv1 hj hj1, hpl, by rw [hz1]; rfl, (by rw [hz0]; exact Nat.zero_le _), told_cons rfl (told_cons rfl (told_cons rfl told_nil)), F, N⟩
    case turnQ =>
      clear F N
      rintro n s₁ ⟨k2, j2, b, a, tka, n0', t0', t1', t2', h', tk', m', rfl, rfl, hj, ht, hab, hal, hm, F₁, N₁⟩
      replace F₁ := Fr.named _ F₁ hm
      dsimp only [nm] at F₁
      refine it_next Y F₁ N₁ X' T' LI LM LMI rfl (by dsimp only [arnd, Around.deeper]; first | exact room2 (by assumption) (by decide) | omega) (by dsimp only [arnd, Around.deeper]; first | exact room2 (by assumption) (by decide) | omega) (k60 hj hkj) ?hendQ ?hgoQ
      case hendQ =>
        intro hc
        rw [hc] at ht
        exact absurd ht (by unfold quotW; exact fun q => nomatch q)
      intro c rest hc r h' tk' n' t0'' t1'' t2'' t hr F₂ N₂
      clear F₁ N₁
      have hrl := one_len' hr
      rw [hc] at ht
      have hdn := drop_next hc
      have hal2 : a.length ≤ 50000 := Nat.le_trans hal (le_k hj hkj)
      dsimp only [core, lexDO] at N₂
      k_steps
      all_goals rename News _ _ _ _ => N
      all_goals rename Fr _ _ _ _ => F
      · obtain ⟨hb, hj2⟩ := quot_end ht (of_decide_eq_true (quo_of (b := true) hr (by assumption)))
        show Q _ _
        have ek1 : k2 + 1 = k + j := end1 hj hj2
        rw [ek1] at N
        refine hret _ _ _ _ _ _ _ _ ((But.ofFr F hz hS).led hobz ?_) (fun p hp => (N p (List.Mem.tail _ (List.Mem.tail _ hp))).1) ?_
        · repeat' (first | exact List.forall_mem_nil _ | refine List.forall_mem_cons.mpr ⟨?_, ?_⟩ | exact fun _ => (N _ (by k_mem)).1 | exact fun q => absurd (List.Mem.head _) q | exact fun q => absurd (List.Mem.tail _ (List.Mem.head _)) q | exact fun q => absurd (List.Mem.tail _ (List.Mem.tail _ (List.Mem.head _))) q)
        · rw [← hab, hb, List.append_nil]
      · have hws := quo_of (b := false) hr (by assumption)
        have he := esc_of (b := true) hr (by assumption)
        obtain ⟨d, r2, b1, j1, hrest, hpl, htk, hj1⟩ := quot_esc ht (of_decide_eq_false hws) (of_decide_eq_true he)
        rename _ = List.take 1 _ => hr2
        have hdr : Z.x.cps.toList.drop (k2 + 1) = d :: r2 := hdn.trans hrest
        rw [hdr] at hr2
        replace hr2 := hr2.trans (show List.take 1 (d :: r2) = [d] from rfl)
        rw [← drop_next hdr] at hpl
        refine stop_out ?_
        refine ⟨50001 - (k2 + 1 + 1), dec2 (le_k hj hkj), k2 + 1 + 1, j1, b1, _, _, _, _, _, _, _, _, _, rfl, rfl, adv2 hj hj1, hpl, by rw [add_one hr2, List.append_assoc, ← hab, htk]; rfl, len2 hal (by assumption), told_cons rfl (told_cons rfl (told_cons rfl told_nil)), F, N⟩
      · have hws := quo_of (b := false) hr (by assumption)
        have he := esc_of (b := false) hr (by assumption)
        obtain ⟨b1, j1, hpl, htk, hj1⟩ := quot_go ht (of_decide_eq_false hws) (of_decide_eq_false he)
        rw [← hdn] at hpl
        refine stop_out ?_
        refine ⟨50001 - (k2 + 1), dec1 (le_k hj hkj), k2 + 1, j1, b1, _, _, _, _, _, _, _, _, _, rfl, rfl, adv1 hj hj1, hpl, by rw [add_one hr, List.append_assoc, ← hab, htk]; rfl, len1 hal (by assumption), told_cons rfl (told_cons rfl (told_cons rfl told_nil)), F, N⟩
  · rename StopEsc => sx
    clear sx
    have hws := ws_of (b := true) hr (by assumption)
    have hq := quo_of (b := false) hr (by assumption)
    refine stop_out ?_
    rename LexOk _ _ => Y
    rename News _ _ _ _ => N
    rename Fr _ _ _ _ => F
    refine merge_next (fun h => ∃ (k2 j2 : Nat) (b : List Nat) (y : Str) (ty : Tok) (n0' : Nat) (t0' t1' t2' : Tok) (m' : Str → Option Value), k2 + j2 = k + j ∧ plainW (Z.x.cps.toList.drop k2) = some (b, j2) ∧ (Str.cps y).toList ++ b = tok ∧ y.length ≤ 1 ∧ 1 ≤ k2 ∧
      Told ([(Str.ofString "self", Value.ref Z.lx), (Str.ofString "token", .str (Str.ofString "") t'), (Str.ofString "fiter", .ref I1), (Str.ofString "ch", .str y ty)] : List (Str × Value)) m' ∧ Fr g' L' h m' ∧
      News g' L' h ((I1, itObj M1 vI) :: (M1, methodObj (.ref 78) (.ref Z.lx)) :: core w.params Z [] np k2 n0' t0' t1' t2')) ?mi ?mr
    case mi =>
      k_steps
      all_goals (refine stop_out ?_)
      all_goals rename News _ _ _ _ => N
      all_goals rename Fr _ _ _ _ => F
      · have he := esc_of (b := true) hr (by assumption)
        obtain ⟨d, r2, b1, j1, hrest, hpl, htk, hj1⟩ := tok_esc ht hws (of_decide_eq_false hq) (of_decide_eq_true he)
        rename _ = List.take 1 _ => hr2
        have hdr : Z.x.cps.toList.drop (k' + 1) = d :: r2 := hdn.trans hrest
        rw [hdr] at hr2
        replace hr2 := hr2.trans (show List.take 1 (d :: r2) = [d] from rfl)
        rw [← drop_next hdr] at hpl
        exact ⟨_, _, rfl, rfl, k' + 1 + 1, j1, b1, _, _, _, _, _, _, _, adv2 hj hj1, hpl, by rw [hr2, htk]; rfl, by assumption, Nat.le_add_left 1 _, told_cons rfl (told_cons rfl (told_cons rfl (told_cons rfl told_nil))), F, N⟩
      · have he := esc_of (b := false) hr (by assumption)
        obtain ⟨b1, j1, hpl, htk, hj1⟩ := tok_go ht hws (of_decide_eq_false hq) (of_decide_eq_false he)
        rw [← hdn] at hpl
        exact ⟨_, _, rfl, rfl, k' + 1, j1, b1, _, _, _, _, _, _, _, adv1 hj hj1, hpl, by rw [hr, htk]; rfl, hrl, Nat.le_add_left 1 _, told_cons rfl (told_cons rfl (told_cons rfl (told_cons rfl told_nil))), F, N⟩
    case mr =>
      clear F N hr hrl hws hq ht hdn hc
      rintro h tk ⟨k1, j1, b1, y, ty, n0', t0', t1', t2', m', hj1, hpl, htk, hyl, hy1, hm, F, N⟩
      replace F := Fr.named _ F hm
      dsimp only [nm] at F
      dsimp only [core, lexDO] at N
      k_steps
      refine stop_out ?_
      rename LexOk _ _ => Y
      rename News _ _ _ _ => N
      rename Fr _ _ _ _ => F
      refine wpAny_For ?_
      k_steps
      refine iter_callit (led_get N (List.Mem.head _)) ?_
      let Inv4 : Nat → Shared → Prop := fun n s' => ∃ k2 j2 b a tka n0' t0' t1' t2' h' tk' m', s' = { s with heap := h', toks := tk' } ∧ n = 50001 - k2 ∧ k2 + j2 = k + j ∧ plainW (Z.x.cps.toList.drop k2) = some (b, j2) ∧ (Str.cps a).toList ++ b = tok ∧ a.length ≤ k2 ∧
        Told ([(Str.ofString "self", Value.ref Z.lx), (Str.ofString "token", .str a tka), (Str.ofString "fiter", .ref I1)] : List (Str × Value)) m' ∧ Fr g' L' h' m' ∧
        News g' L' h' ((I1, itObj M1 vI) :: (M1, methodObj (.ref 78) (.ref Z.lx)) :: core w.params Z [] np k2 n0' t0' t1' t2')
      refine codeAny_forLoop Inv4 ?turnA _ ⟨k1, j1, b1, _, _, _, _, _, _, _, _, _, rfl, rfl, hj1, hpl, by rw [Str.cps_append, Array.toList_append, hz1, List.nil_append]; exact htk, (by rw [Str.length_append, hz0, Nat.zero_add]; exact Nat.le_trans hyl hy1), told_cons rfl (told_cons rfl (told_cons rfl told_nil)), F, N⟩
      case turnA =>
        clear F N
        rintro n s₁ ⟨k2, j2, b, a, tka, n0', t0', t1', t2', h', tk', m', rfl, rfl, hj, ht, hab, hal, hm, F₁, N₁⟩
        replace F₁ := Fr.named _ F₁ hm
        dsimp only [nm] at F₁
        refine it_next Y F₁ N₁ X' T' LI LM LMI rfl (by dsimp only [arnd, Around.deeper]; first | exact room2 (by assumption) (by decide) | omega) (by dsimp only [arnd, Around.deeper]; first | exact room2 (by assumption) (by decide) | omega) (k60 hj hkj) ?hendA ?hgoA
        case hendA =>
          intro hc
          rw [hc] at ht
          exact absurd ht (by unfold plainW; exact fun q => nomatch q)
        intro c rest hc r h' tk' n' t0'' t1'' t2'' t hr F₂ N₂
        clear F₁ N₁
        have hrl := one_len' hr
        rw [hc] at ht
        have hdn := drop_next hc
        have hal2 : a.length ≤ 50000 := Nat.le_trans hal (le_k hj hkj)
        dsimp only [core, lexDO] at N₂
        k_steps
        all_goals rename News _ _ _ _ => N
        all_goals rename Fr _ _ _ _ => F
        · have hws := ws_of (b := true) hr (by assumption)
          have he := esc_of (b := true) hr (by assumption)
          obtain ⟨d, r2, b1, j1, hrest, hpl, htk, hj1⟩ := plain_esc ht hws (of_decide_eq_true he)
          rename _ = List.take 1 _ => hr2
          have hdr : Z.x.cps.toList.drop (k2 + 1) = d :: r2 := hdn.trans hrest
          rw [hdr] at hr2
          replace hr2 := hr2.trans (show List.take 1 (d :: r2) = [d] from rfl)
          rw [← drop_next hdr] at hpl
          refine stop_out ?_
          refine ⟨50001 - (k2 + 1 + 1), dec2 (le_k hj hkj), k2 + 1 + 1, j1, b1, _, _, _, _, _, _, _, _, _, rfl, rfl, adv2 hj hj1, hpl, by rw [add_one hr2, List.append_assoc, ← hab, htk]; rfl, len2 hal (by assumption), told_cons rfl (told_cons rfl (told_cons rfl told_nil)), F, N⟩
        · have hws := ws_of (b := true) hr (by assumption)
          have he := esc_of (b := false) hr (by assumption)
          obtain ⟨b1, j1, hpl, htk, hj1⟩ := plain_go ht hws (of_decide_eq_false he)
          rw [← hdn] at hpl
          refine stop_out ?_
          refine ⟨50001 - (k2 + 1), dec1 (le_k hj hkj), k2 + 1, j1, b1, _, _, _, _, _, _, _, _, _, rfl, rfl, adv1 hj hj1, hpl, by rw [add_one hr, List.append_assoc, ← hab, htk]; rfl, len1 hal (by assumption), told_cons rfl (told_cons rfl (told_cons rfl told_nil)), F, N⟩
        · obtain ⟨hb, hj2⟩ := plain_ws ht (ws_of (b := false) hr (by assumption))
          show Q _ _
          have ek1 : k2 + 1 = k + j := end1 hj hj2
          rw [ek1] at N
          refine hret _ _ _ _ _ _ _ _ ((But.ofFr F hz hS).led hobz ?_) (fun p hp => (N p (List.Mem.tail _ (List.Mem.tail _ hp))).1) ?_
          · repeat' (first | exact List.forall_mem_nil _ | refine List.forall_mem_cons.mpr ⟨?_, ?_⟩ | exact fun _ => (N _ (by k_mem)).1 | exact fun q => absurd (List.Mem.head _) q | exact fun q => absurd (List.Mem.tail _ (List.Mem.head _)) q | exact fun q => absurd (List.Mem.tail _ (List.Mem.tail _ (List.Mem.head _))) q)
          · rw [← hab, hb, List.append_nil]
  · rename News _ _ _ _ => N
    rename Fr _ _ _ _ => F
    obtain ⟨j1, hpl, hj1⟩ := tok_ws ht (ws_of (b := false) hr (by assumption))
    rw [← hdn] at hpl
    refine stop_out ?_
    refine ⟨50001 - (k' + 1), dec1 (le_k hj hkj), k' + 1, j1, _, _, _, _, _, _, _, _, rfl, rfl, adv1 hj hj1, hpl, told_cons rfl (told_cons rfl (told_cons rfl told_nil)), F, N⟩
end Mine
end
section
open PySem PySem.W PyProof.Rows PySem.Spec PySem.Calls
set_option Elab.async false
namespace Mine
local macro_rules | `(tactic| k_ne) => `(tactic| k_extra "k_ne")
theorem fill_lexPop : hd.heap_1 = hd.heap_1 ∧ PySem.Challenge.rw_pg0177_01 = PySem.Challenge.rw_pg0177_01 := by k_fill; exact ⟨rfl, rfl⟩
set_option pp.maxSteps 900
set_option pp.deepTerms.threshold 6
set_option linter.unusedVariables false
set_option maxRecDepth 100000 in
set_option maxHeartbeats 8000000 in
theorem lexPop {p : Program} {loose : List Str} {mean : ExcName → Option Value} {mg mb : Str → Option Value} {w : World}
    {dp un : Nat} {fr : List Env} {gd : Option (List Code)} {s : Shared} {Q E : Value → Shared → Prop} {g : Heap}
    {Z : LexK} {np k n0 : Nat} {t0 t1 t2 tr : Tok} {r : Str}
    (st : g.StaysIn s.heap) (X : (hd.heap_1 w.params).In g) (T : Top p loose mean mg mb g)
    (hdp : dp + 60 < recursionLimit) (hun : un + 600 < cLine)
    (Y : LexOk w Z) (hobz : ∀ p ∈ core w.params Z [.str r tr] np k n0 t0 t1 t2, s.heap.get? p.1 = some p.2 ∧ g.get? p.1 = none)
    (hret : ∀ h' tk' np' t, But [Z.pb] s.heap h' → (∀ p ∈ core w.params Z [] np' k n0 t0 t1 t2, h'.get? p.1 = some p.2) → Q (.str r t) { s with heap := h', toks := tk' }) :
    wpAny (model PySem.Challenge.pw_pg0177_01 w) (arnd dp un fr gd) (call (.ref 85) [.ref Z.lx] []) Q E s := by
  w_top off
  k_with_none
  k_with "k_ne" => ((refine neN ?_); (try dsimp only); (with_reducible first | assumption | (refine Ne.symm ?_; assumption) | (refine Nat.ne_of_lt ?_; assumption) | (refine Nat.ne_of_gt ?_; assumption)))
  have hob : ∀ p ∈ (core w.params Z [.str r tr] np k n0 t0 t1 t2 : List (Addr × Obj)), s.heap.get? p.1 = some p.2 ∧ g.get? p.1 = none := hobz
  refine' entered (args := ⟨[.ref Z.lx], []⟩) (ob := core w.params Z [.str r tr] np k n0 t0 t1 t2) ?k8 st X T ?kO ?k6 ?k7 ?k9 ?kB ?_ ?c2 ?c3 ?c4 ?c5
  case k8 => exact room0 hdp
  case kO => exact hob
  case k6 => k_is
  case k7 => k_is
  case k9 => first | exact BindsTo.of_eq rfl | exact binds_K (X.keeps st) rfl (by k_is) rfl rfl rfl
  case kB => exact locs rfl
  case c2 => exact rfl
  case c3 => exact rfl
  case c4 => exact rfl
  case c5 => decide
  intro g' L' h' hz eL hS hO X' T' F' N'
  clear X T st
  try dsimp only
  show wpAny _ _ _ _ _ _
  k_fold
  dsimp only [core, lexDO] at N'
  have o9 := Y.o9
  have o8 := Y.o8
  have o7 := Y.o7
  obtain ⟨q1, q2, q3, q4, q5, q6⟩ := Y.fo
  replace q1 := ltN q1; replace q2 := ltN q2; replace q3 := ltN q3; replace q4 := ltN q4; replace q5 := ltN q5; replace q6 := ltN q6; replace o7 := ltN o7; replace o8 := ltN o8; replace o9 := ltN o9
  have p1 := ltN (Nat.lt_trans o8 o9)
  have p2 := ltN (Nat.lt_trans o7 p1)
  have p3 := ltN (Nat.lt_trans q6 p2)
  have p4 := ltN (Nat.lt_trans q5 p3)
  have p5 := ltN (Nat.lt_trans q4 p4)
  have p6 := ltN (Nat.lt_trans q3 p5)
  have p7 := ltN (Nat.lt_trans q2 p6)
  have p8 := ltN (Nat.lt_trans q1 p7)
  k_steps
  all_goals rename News _ _ _ _ => N
  all_goals rename Fr _ _ _ _ => F
  show Q _ _
  refine hret _ _ _ _ ((But.ofFr F hz hS).led hobz ?_) (fun p hp => (N p hp).1)
  repeat' (first | exact List.forall_mem_nil _ | refine List.forall_mem_cons.mpr ⟨?_, ?_⟩ | exact fun _ => (N _ (by k_mem)).1 | exact fun q => absurd (List.Mem.head _) q | exact fun q => absurd (List.Mem.tail _ (List.Mem.head _)) q | exact fun q => absurd (List.Mem.tail _ (List.Mem.tail _ (List.Mem.head _))) q)
end Mine
end
section
open PySem PySem.W PyProof.Rows PySem.Spec PySem.Calls
set_option Elab.async false
namespace Mine
local macro_rules | `(tactic| k_ne) => `(tactic| k_extra "k_ne")
theorem fill_lexPush : hd.heap_1 = hd.heap_1 ∧ PySem.Challenge.rw_pg0177_01 = PySem.Challenge.rw_pg0177_01 := by k_fill; exact ⟨rfl, rfl⟩
set_option pp.maxSteps 900
set_option pp.deepTerms.threshold 6
set_option linter.unusedVariables false
set_option maxRecDepth 100000 in
set_option maxHeartbeats 8000000 in
theorem lexPush {p : Program} {loose : List Str} {mean : ExcName → Option Value} {mg mb : Str → Option Value} {w : World}
    {dp un : Nat} {fr : List Env} {gd : Option (List Code)} {s : Shared} {Q E : Value → Shared → Prop} {g : Heap}
    {Z : LexK} {np k n0 : Nat} {t0 t1 t2 tr : Tok} {r : Str}
    (st : g.StaysIn s.heap) (X : (hd.heap_1 w.params).In g) (T : Top p loose mean mg mb g)
    (hdp : dp + 60 < recursionLimit) (hun : un + 600 < cLine)
    (Y : LexOk w Z) (hobz : ∀ p ∈ core w.params Z [] np k n0 t0 t1 t2, s.heap.get? p.1 = some p.2 ∧ g.get? p.1 = none)
    (hret : ∀ v h' tk' np' tr', But [Z.pb] s.heap h' → (∀ p ∈ core w.params Z [.str r tr'] np' k n0 t0 t1 t2, h'.get? p.1 = some p.2) → Q v { s with heap := h', toks := tk' }) :
    wpAny (model PySem.Challenge.pw_pg0177_01 w) (arnd dp un fr gd) (call (.ref 92) [.ref Z.lx, .str r tr] []) Q E s := by
  w_top off
  k_with_none
  k_with "k_ne" => ((refine neN ?_); (try dsimp only); (with_reducible first | assumption | (refine Ne.symm ?_; assumption) | (refine Nat.ne_of_lt ?_; assumption) | (refine Nat.ne_of_gt ?_; assumption)))
  have hob : ∀ p ∈ (core w.params Z [] np k n0 t0 t1 t2 : List (Addr × Obj)), s.heap.get? p.1 = some p.2 ∧ g.get? p.1 = none := hobz
  refine' entered (args := ⟨[.ref Z.lx, .str r tr], []⟩) (ob := core w.params Z [] np k n0 t0 t1 t2) ?k8 st X T ?kO ?k6 ?k7 ?k9 ?kB ?_ ?c2 ?c3 ?c4 ?c5
  case k8 => exact room0 hdp
  case kO => exact hob
  case k6 => k_is
  case k7 => k_is
  case k9 => first | exact BindsTo.of_eq rfl | exact binds_K (X.keeps st) rfl (by k_is) rfl rfl rfl
  case kB => exact locs rfl
  case c2 => exact rfl
  case c3 => exact rfl
  case c4 => exact rfl
  case c5 => decide
  intro g' L' h' hz eL hS hO X' T' F' N'
  clear X T st
  try dsimp only
  show wpAny _ _ _ _ _ _
  k_fold
  dsimp only [core, lexDO] at N'
  have o9 := Y.o9
  have o8 := Y.o8
  have o7 := Y.o7
  obtain ⟨q1, q2, q3, q4, q5, q6⟩ := Y.fo
  replace q1 := ltN q1; replace q2 := ltN q2; replace q3 := ltN q3; replace q4 := ltN q4; replace q5 := ltN q5; replace q6 := ltN q6; replace o7 := ltN o7; replace o8 := ltN o8; replace o9 := ltN o9
  have p1 := ltN (Nat.lt_trans o8 o9)
  have p2 := ltN (Nat.lt_trans o7 p1)
  have p3 := ltN (Nat.lt_trans q6 p2)
  have p4 := ltN (Nat.lt_trans q5 p3)
  have p5 := ltN (Nat.lt_trans q4 p4)
  have p6 := ltN (Nat.lt_trans q3 p5)
  have p7 := ltN (Nat.lt_trans q2 p6)
  have p8 := ltN (Nat.lt_trans q1 p7)
  k_steps
  all_goals rename News _ _ _ _ => N
  all_goals rename Fr _ _ _ _ => F
  show Q _ _
  refine hret _ _ _ _ _ ((But.ofFr F hz hS).led hobz ?_) (fun p hp => (N p hp).1)
  repeat' (first | exact List.forall_mem_nil _ | refine List.forall_mem_cons.mpr ⟨?_, ?_⟩ | exact fun _ => (N _ (by k_mem)).1 | exact fun q => absurd (List.Mem.head _) q | exact fun q => absurd (List.Mem.tail _ (List.Mem.head _)) q | exact fun q => absurd (List.Mem.tail _ (List.Mem.tail _ (List.Mem.head _))) q)
end Mine
end
section
open PySem PySem.W PyProof.Rows PySem.Spec PySem.Calls
set_option Elab.async false
namespace Mine
/-- the words that a page read from place k on holds -/
inductive Reads (cs : List Nat) : Nat → List (List Nat) → Prop
  | done {k j : Nat} (h : tokW (cs.drop k) = some ([], j)) (e : k + j = cs.length + 1) : Reads cs k []
  | more {k j : Nat} {w : List Nat} {ws : List (List Nat)} (h : tokW (cs.drop k) = some (w, j)) (e : k + j ≤ cs.length + 1) (r : Reads cs (k + j) ws) : Reads cs k (w :: ws)
/-- the words that a lexer has before it, one of them pushed back or none -/
def Avail (cs : List Nat) (k : Nat) (vs : List Value) (ts : List (List Nat)) : Prop :=
  (vs = [] ∧ Reads cs k ts) ∨ (∃ w tr ts', vs = [.str w tr] ∧ ts = w.cps.toList :: ts' ∧ Reads cs k ts')
/-- where a word's reading leaves it -/
def After (cs : List Nat) (k : Nat) (ts : List (List Nat)) : Prop := match ts with
  | [] => k = cs.length + 1
  | _ :: ts' => Reads cs k ts'
theorem core_re {g h h' : Heap} {L : Addr} {pre post c c' : List (Addr × Obj)} {S : List Addr} (N : News g L h (pre ++ (c ++ post))) (hm : c'.map Prod.fst = c.map Prod.fst) (hc : ∀ p ∈ c', h'.get? p.1 = some p.2) (B : But S h h') (hpre : ∀ p ∈ pre, p.1 ∉ S) (hpost : ∀ p ∈ post, p.1 ∉ S) : News g L h' (pre ++ (c' ++ post)) := by
  intro p hp
  rcases List.mem_append.mp hp with hp | hp
  · have n := N p (List.mem_append_left _ hp)
    exact ⟨B.get _ _ (hpre p hp) n.1, n.2⟩
  rcases List.mem_append.mp hp with hp | hp
  · have : p.1 ∈ c.map Prod.fst := hm ▸ List.mem_map_of_mem hp
    obtain ⟨q, hq, e⟩ := List.mem_map.mp this
    have n := N q (List.mem_append_right _ (List.mem_append_left _ hq))
    rw [e] at n
    exact ⟨hc p hp, n.2⟩
  · have n := N p (List.mem_append_right _ (List.mem_append_right _ hp))
    exact ⟨B.get _ _ (hpost p hp) n.1, n.2⟩
section
variable {p : Program} {loose : List Str} {mean : ExcName → Option Value} {mg mb : Str → Option Value} {w : World} {dp un : Nat} {fr : List Env} {gd : Option (List Code)} {s : Shared} {E : Value → Shared → Prop} {g : Heap} {L : Addr} {m : Str → Option Value}
  {Z : LexK} {vs : List Value} {np k n0 : Nat} {t0 t1 t2 : Tok} {pre post : List (Addr × Obj)}
theorem fr_chgs {h h' : Heap} {S : List Addr} (F : Fr g L h m) (B : But S h h') (hS : ∀ a ∈ S, a ≠ L ∧ g.get? a = none) : Fr g L h' m := Fr.but F B hS
theorem get_step {ts : List (List Nat)} {Q : Value → Shared → Prop} (Y : LexOk w Z) (F : Fr g L s.heap m) (N : News g L s.heap (pre ++ (core w.params Z vs np k n0 t0 t1 t2 ++ post))) (X : (hd.heap_1 w.params).In g) (T : Top p loose mean mg mb g)
    (hpre : ∀ p ∈ pre, p.1 ∉ [Z.ld, Z.F.l, Z.pb]) (hpost : ∀ p ∈ post, p.1 ∉ [Z.ld, Z.F.l, Z.pb]) (hdp : dp + 60 < recursionLimit) (hun : un + 600 < cLine) (hcs : Z.x.cps.toList.length ≤ 40000) (S : Avail Z.x.cps.toList k vs ts)
    (h : ∀ (r : Str) h' tk' np' k' n' t0' t1' t2' t, Fr g L h' m → News g L h' (pre ++ (core w.params Z [] np' k' n' t0' t1' t2' ++ post)) → r.cps.toList = ts.headD [] → After Z.x.cps.toList k' ts → Q (.str r t) { s with heap := h', toks := tk' }) :
    wpAny (model PySem.Challenge.pw_pg0177_01 w) (arnd dp un fr gd) (call (.ref 85) [.ref Z.lx]) Q E s := by
  have C : ∀ p ∈ core w.params Z vs np k n0 t0 t1 t2, p ∈ pre ++ (core w.params Z vs np k n0 t0 t1 t2 ++ post) := fun p hp => List.mem_append_right _ (List.mem_append_left _ hp)
  have nl : ∀ a ∈ [Z.ld, Z.F.l], a ≠ L ∧ g.get? a = none := by
    intro a ha
    rcases List.mem_cons.mp ha with rfl | ha
    · exact (N _ (C _ (List.Mem.tail _ (List.Mem.head _)))).2
    rcases List.mem_singleton.mp ha with rfl
    exact led_nl N (C (Z.F.l, lstO [.int k t0] n0) (by k_mem))
  have hob : ∀ p ∈ core w.params Z vs np k n0 t0 t1 t2, s.heap.get? p.1 = some p.2 ∧ g.get? p.1 = none := fun p hp => ⟨(N p (C p hp)).1, (N p (C p hp)).2.2⟩
  have two : ∀ a, a ∉ [Z.ld, Z.F.l, Z.pb] → a ∉ [Z.ld, Z.F.l] := fun a n q => n (by
    rcases List.mem_cons.mp q with q | q
    · rw [q]; exact List.Mem.head _
    · rw [List.mem_singleton.mp q]; exact List.Mem.tail _ (List.Mem.head _))
  have hp2 : ∀ p ∈ pre, p.1 ∉ [Z.ld, Z.F.l] := fun p hp => two _ (hpre p hp)
  have hp3 : ∀ p ∈ post, p.1 ∉ [Z.ld, Z.F.l] := fun p hp => two _ (hpost p hp)
  rcases S with ⟨rfl, R⟩ | ⟨v, tr, ts', rfl, rfl, R⟩
  · cases R with
    | done e1 e2 =>
      refine lexTok F.keep X T (by omega) (by omega) Y hob e1 (by omega) fun r h' tk' n' t0' t1' t2' t B hc hr => ?_
      exact h r h' tk' _ _ n' t0' t1' t2' t (fr_chgs F B nl) (core_re N rfl hc B hp2 hp3) hr e2
    | more e1 e2 R' =>
      refine lexTok F.keep X T (by omega) (by omega) Y hob e1 (by omega) fun r h' tk' n' t0' t1' t2' t B hc hr => ?_
      exact h r h' tk' _ _ n' t0' t1' t2' t (fr_chgs F B nl) (core_re N rfl hc B hp2 hp3) hr R'
  · refine lexPop F.keep X T (by omega) (by omega) Y hob fun h' tk' np' t B hc => ?_
    refine h v h' tk' np' k _ _ _ _ t (fr_chgs F B fun a ha => ?_) (core_re N rfl hc B (fun p hp q => hpre p hp ?_) fun p hp q => hpost p hp ?_) rfl R
    · rcases List.mem_singleton.mp ha with rfl
      exact led_nl N (C (Z.pb, lstO [.str v tr] np) (by k_mem))
    · rw [List.mem_singleton.mp q]; exact List.Mem.tail _ (List.Mem.tail _ (List.Mem.head _))
    · rw [List.mem_singleton.mp q]; exact List.Mem.tail _ (List.Mem.tail _ (List.Mem.head _))
theorem push_step {r : Str} {tr : Tok} {Q : Value → Shared → Prop} (Y : LexOk w Z) (F : Fr g L s.heap m) (N : News g L s.heap (pre ++ (core w.params Z [] np k n0 t0 t1 t2 ++ post))) (X : (hd.heap_1 w.params).In g) (T : Top p loose mean mg mb g)
    (hpre : ∀ p ∈ pre, p.1 ∉ [Z.ld, Z.F.l, Z.pb]) (hpost : ∀ p ∈ post, p.1 ∉ [Z.ld, Z.F.l, Z.pb]) (hdp : dp + 60 < recursionLimit) (hun : un + 600 < cLine)
    (h : ∀ v h' tk' np' tr', Fr g L h' m → News g L h' (pre ++ (core w.params Z [.str r tr'] np' k n0 t0 t1 t2 ++ post)) → Q v { s with heap := h', toks := tk' }) :
    wpAny (model PySem.Challenge.pw_pg0177_01 w) (arnd dp un fr gd) (call (.ref 92) [.ref Z.lx, .str r tr]) Q E s := by
  have C : ∀ p ∈ core w.params Z [] np k n0 t0 t1 t2, p ∈ pre ++ (core w.params Z [] np k n0 t0 t1 t2 ++ post) := fun p hp => List.mem_append_right _ (List.mem_append_left _ hp)
  refine lexPush F.keep X T (by omega) (by omega) Y (fun p hp => ⟨(N p (C p hp)).1, (N p (C p hp)).2.2⟩) fun v h' tk' np' tr' B hc => ?_
  refine h v h' tk' np' tr' (fr_chgs F B fun a ha => ?_) (core_re N rfl hc B (fun p hp q => hpre p hp ?_) fun p hp q => hpost p hp ?_)
  · rcases List.mem_singleton.mp ha with rfl
    exact led_nl N (C (Z.pb, lstO [] np) (by k_mem))
  · rw [List.mem_singleton.mp q]; exact List.Mem.tail _ (List.Mem.tail _ (List.Mem.head _))
  · rw [List.mem_singleton.mp q]; exact List.Mem.tail _ (List.Mem.tail _ (List.Mem.head _))
end
end Mine
end
section
open PySem PySem.W PyProof.Rows PySem.Spec PySem.Calls
set_option Elab.async false
namespace Mine
section
variable {prog : Program} {w : World} {A : Around} {E : Value → Shared → Prop} {s : Shared} {g : Heap} {L a b : Addr} {m : Str → Option Value} {news : List (Addr × Obj)} {vs ws : List Value} {n n2 : Nat}
theorem addL {Q : Value → Shared → Prop} (F : Fr g L s.heap m) (N : News g L s.heap news) (ha : s.heap.get? a = some (lstO vs n)) (hb : s.heap.get? b = some (lstO ws n2)) (hz : vs.length + ws.length ≤ 100000)
    (h : ∀ I h' n', Fr g L h' m → News g L h' ((I, lstO (vs ++ ws) n') :: news) → (∀ p ∈ news, p.1 < I) → Q (.ref I) { s with heap := h' }) : wpAny (model prog w) A (binaryOp .Add (.ref a) (.ref b)) Q E s := by
  exact add_lists F N ⟨_, ha, rfl, n, rfl⟩ ⟨_, hb, rfl, n2, rfl⟩ (fun h' F' N' => h _ h' _ F' N' fun q hq => Heap.lt_size (N q hq).1) (Nat.le_trans hz (by decide))
end
end Mine
end
section
open PySem PySem.W PyProof.Rows PySem.Spec PySem.Calls
set_option Elab.async false
namespace Mine
theorem fr_ext {g h h' : Heap} {L I : Addr} {m : Str → Option Value} (F : Fr g L h m) (B : Heap.ExtBut I h h') (k : I ≠ L ∧ g.get? I = none) : Fr g L h' m := by
  obtain ⟨o, es, ep, ho, r⟩ := F.ns
  refine ⟨⟨o, es, ep, B _ _ (Ne.symm k.1) ho, r⟩, fun b o e => B _ _ (fun q => ?_) (F.keep b o e), F.above⟩
  rw [q, k.2] at e; cases e
/-- a range's iterator -/
noncomputable abbrev rit (x left : Int) : Obj := { cls := .type "range_iterator", dict := none, data := .fields #[rawInt x, rawInt left, rawInt 1], slots := #[] }
theorem small_range {c : Int} (h0 : 0 ≤ c) (h1 : c ≤ 20) : Builtin.Range.small 0 c 1 = true ∧ Builtin.Range.rangeSize 0 c 1 = c := by
  have k : ∀ n : Fin 21, Builtin.Range.small 0 (n.val : Int) 1 = true ∧ Builtin.Range.rangeSize 0 (n.val : Int) 1 = (n.val : Int) := by decide +kernel
  have e : ((⟨c.toNat, by omega⟩ : Fin 21).val : Int) = c := Int.toNat_of_nonneg h0
  rw [← e]
  exact k _
section
variable {prog : Program} {w : World} {A : Around} {E : Value → Shared → Prop} {s : Shared} {g : Heap} {L r : Addr} {m : Str → Option Value} {news : List (Addr × Obj)} {c x left : Int}
theorem rangeIter_K {t u v : Tok} {Q : Value → Shared → Prop} (F : Fr g L s.heap m) (N : News g L s.heap news) (hr : IsRange s.heap r 0 c 1 t u v) (h0 : 0 ≤ c) (h1 : c ≤ 20)
    (h : ∀ I h', Fr g L h' m → News g L h' ((I, rit 0 c) :: news) → (∀ p ∈ news, p.1 < I) → Q (.ref I) { s with heap := h' }) : wpAny (model prog w) A (pyIter (.ref r)) Q E s := by
  obtain ⟨e1, e2⟩ := small_range h0 h1
  refine wpAny_pyIter_range hr e1 ?_
  rw [e2]
  exact h _ _ (F.push _) (News.push F N _ rfl) fun q hq => Heap.lt_size (N q hq).1
theorem rangeNext_K {I : Addr} {Q : Option Value → Shared → Prop} (hh : A.handled = none) (F : Fr g L s.heap m) (N : News g L s.heap ((I, rit x left) :: news)) (hI : ∀ p ∈ news, p.1 ≠ I)
    (hgo : 0 < left → ∀ h' tk', Fr g L h' m → News g L h' ((I, rit (x + 1) (left - 1)) :: news) → Q (some (.int x tk')) { s with heap := h', toks := tk' + 1 })
    (hend : left ≤ 0 → ∀ h', Fr g L h' m → News g L h' news → Q none { s with heap := h' }) : wpAny (model prog w) A (pyNext (.ref I)) Q E s := by
  have nI := N _ (List.Mem.head _)
  by_cases hl : 0 < left
  · refine wpAny_pyNext_range_item nI.1 hl fun h' e B => ?_
    have B' : But [I] s.heap h' := ⟨Nat.le_of_eq B.1.symm, fun b o n q => (B.2 b (fun z => n (List.mem_singleton.mpr z))).trans q⟩
    refine hgo hl h' s.toks (fr_chg F B' nI.2) fun p hp => ?_
    rcases List.mem_cons.mp hp with rfl | hp
    · exact ⟨e, nI.2⟩
    · have n := N p (List.Mem.tail _ hp)
      exact ⟨B'.get _ _ (fun z => hI p hp (List.mem_singleton.mp z)) n.1, n.2⟩
  · refine wpAny_pyNext_range_end hh nI.1 (by omega) fun h' B => ?_
    refine hend (by omega) h' (fr_ext F B nI.2) fun p hp => ?_
    have n := N p (List.Mem.tail _ hp)
    exact ⟨B _ _ (hI p hp) n.1, n.2⟩
end
end Mine
end
section
open PySem PySem.W PyProof.Rows PySem.Spec PySem.Calls
set_option Elab.async false
namespace Mine
theorem take_while_of {α : Type} {p : α → Bool} {d : α} : ∀ (xs : List α) (r : Nat), (∀ i, i < r → i < xs.length → p (xs.getD i d) = true) → (∀ i, r ≤ i → i < xs.length → p (xs.getD i d) = false) → r ≤ xs.length → xs.take r = xs.takeWhile p ∧ xs.drop r = xs.dropWhile p
  | [], r, _, _, _ => by simp
  | x :: xs, 0, _, h2, _ => by
    have := h2 0 (Nat.le_refl _) (Nat.zero_lt_succ _)
    have e : p x = false := this
    simp [List.takeWhile_cons, List.dropWhile_cons, e]
  | x :: xs, r + 1, h1, h2, hr => by
    have e : p x = true := h1 0 (Nat.zero_lt_succ _) (Nat.zero_lt_succ _)
    obtain ⟨a, b⟩ := take_while_of xs r (fun i q1 q2 => h1 (i + 1) (Nat.succ_lt_succ q1) (Nat.succ_lt_succ q2)) (fun i q1 q2 => h2 (i + 1) (Nat.succ_le_succ q1) (Nat.succ_lt_succ q2)) (Nat.le_of_succ_le_succ hr)
    simp [List.takeWhile_cons, List.dropWhile_cons, e, a, b]
/-- a colour laid behind its like, before its like -/
noncomputable def layR (x : Spot) (xs : List Spot) : List Spot := xs.takeWhile (fun y => decide (y.l ≤ x.l)) ++ x :: xs.dropWhile (fun y => decide (y.l ≤ x.l))
noncomputable def layL (x : Spot) (xs : List Spot) : List Spot := xs.takeWhile (fun y => decide (y.l < x.l)) ++ x :: xs.dropWhile (fun y => decide (y.l < x.l))
theorem layR_of {x : Spot} {xs : List Spot} {r : Int} (h0 : 0 ≤ r) (h1 : r ≤ xs.length) (a : ∀ i : Nat, (i : Int) < r → (xs.getD i ⟨0, 0, 0⟩).l ≤ x.l) (b : ∀ i : Nat, r ≤ (i : Int) → i < xs.length → x.l < (xs.getD i ⟨0, 0, 0⟩).l) :
    xs.take r.toNat ++ x :: xs.drop r.toNat = layR x xs := by
  obtain ⟨e1, e2⟩ := take_while_of (p := fun y => decide (y.l ≤ x.l)) (d := ⟨0, 0, 0⟩) xs r.toNat (fun i q _ => decide_eq_true (a i (by omega))) (fun i q1 q2 => decide_eq_false (by have := b i (by omega) q2; omega)) (by omega)
  rw [e1, e2]; rfl
theorem layL_of {x : Spot} {xs : List Spot} {r : Int} (h0 : 0 ≤ r) (h1 : r ≤ xs.length) (a : ∀ i : Nat, (i : Int) < r → (xs.getD i ⟨0, 0, 0⟩).l < x.l) (b : ∀ i : Nat, r ≤ (i : Int) → i < xs.length → x.l ≤ (xs.getD i ⟨0, 0, 0⟩).l) :
    xs.take r.toNat ++ x :: xs.drop r.toNat = layL x xs := by
  obtain ⟨e1, e2⟩ := take_while_of (p := fun y => decide (y.l < x.l)) (d := ⟨0, 0, 0⟩) xs r.toNat (fun i q _ => decide_eq_true (a i (by omega))) (fun i q1 q2 => decide_eq_false (by have := b i (by omega) q2; omega)) (by omega)
  rw [e1, e2]; rfl
/-- the row's tuples in the ledger's tail -/
noncomputable def ColsOf (cols : List (Addr × Obj)) : List Value → List Spot → Prop
  | [], [] => True
  | .ref a :: vs, x :: xs => x.ok ∧ (∃ t1 t2 t3 n, (a, tupO [.int x.p0 t1, .int x.p1 t2, .int x.p2 t3] n) ∈ cols) ∧ ColsOf cols vs xs
  | _, _ => False
theorem ColsOf.are {g h : Heap} {L : Addr} {news cols : List (Addr × Obj)} (N : News g L h news) (hs : ∀ p ∈ cols, p ∈ news) : ∀ {vs : List Value} {xs : List Spot}, ColsOf cols vs xs → ColsAre h vs xs
  | [], [], _ => trivial
  | .ref a :: vs, x :: xs, c => by
    obtain ⟨ok, ⟨t1, t2, t3, n, hm⟩, r⟩ := c
    exact ⟨ok, ⟨t1, t2, t3, n, (N _ (hs _ hm)).1⟩, ColsOf.are N hs r⟩
theorem ColsOf.mono {cols cols' : List (Addr × Obj)} (hs : ∀ p ∈ cols, p ∈ cols') : ∀ {vs : List Value} {xs : List Spot}, ColsOf cols vs xs → ColsOf cols' vs xs
  | [], [], _ => trivial
  | .ref a :: vs, x :: xs, c => by
    obtain ⟨ok, ⟨t1, t2, t3, n, hm⟩, r⟩ := c
    exact ⟨ok, ⟨t1, t2, t3, n, hs _ hm⟩, ColsOf.mono hs r⟩
theorem ColsOf.append {cols : List (Addr × Obj)} : ∀ {vs vs' : List Value} {xs xs' : List Spot}, ColsOf cols vs xs → ColsOf cols vs' xs' → ColsOf cols (vs ++ vs') (xs ++ xs')
  | [], _, [], _, _, b => b
  | .ref a :: vs, _, x :: xs, _, c, b => ⟨c.1, c.2.1, ColsOf.append c.2.2 b⟩
theorem ColsOf.take {cols : List (Addr × Obj)} : ∀ {vs : List Value} {xs : List Spot} (n : Nat), ColsOf cols vs xs → ColsOf cols (vs.take n) (xs.take n)
  | [], [], n, c => by simp [ColsOf]
  | .ref a :: vs, x :: xs, 0, c => trivial
  | .ref a :: vs, x :: xs, n + 1, c => ⟨c.1, c.2.1, ColsOf.take n c.2.2⟩
theorem ColsOf.drop {cols : List (Addr × Obj)} : ∀ {vs : List Value} {xs : List Spot} (n : Nat), ColsOf cols vs xs → ColsOf cols (vs.drop n) (xs.drop n)
  | [], [], n, c => by simp [ColsOf]
  | .ref a :: vs, x :: xs, 0, c => c
  | .ref a :: vs, x :: xs, n + 1, c => ColsOf.drop n c.2.2
theorem ColsOf.reverse {cols : List (Addr × Obj)} : ∀ {vs : List Value} {xs : List Spot}, ColsOf cols vs xs → ColsOf cols vs.reverse xs.reverse
  | [], [], _ => trivial
  | .ref a :: vs, x :: xs, c => by
    rw [List.reverse_cons, List.reverse_cons]
    exact ColsOf.append (ColsOf.reverse c.2.2) ⟨c.1, c.2.1, trivial⟩
theorem ColsOf.length {cols : List (Addr × Obj)} : ∀ {vs : List Value} {xs : List Spot}, ColsOf cols vs xs → vs.length = xs.length
  | [], [], _ => rfl
  | .ref a :: vs, x :: xs, c => by rw [List.length_cons, List.length_cons, ColsOf.length c.2.2]
theorem cut_sz {a b l B : Nat} (h : l ≤ 20) (hB : 40 ≤ B) : min a l + (l - b) ≤ B := Nat.le_trans (Nat.add_le_add (Nat.le_trans (Nat.min_le_right _ _) h) (Nat.le_trans (Nat.sub_le _ _) h)) hB
end Mine
end
section
open PySem PySem.W PyProof.Rows PySem.Spec PySem.Calls
set_option Elab.async false
namespace Mine
/-- the digits of a number -/
noncomputable def digs (n : Int) : List Nat := (Str.ofString (toString n)).cps.toList
/-- the page's deeds -/
inductive Deed
  | lay (x : Spot) (grey : Bool)
  | neg
  | drop (lo hi : Int)
noncomputable def Deed.name : Deed → List Nat
  | .lay _ _ => (Str.ofString "lay").cps.toList
  | .neg => (Str.ofString "negative").cps.toList
  | .drop _ _ => (Str.ofString "drop").cps.toList
noncomputable def Deed.args : Deed → List Int
  | .lay x false => [x.p0, x.p1, x.p2]
  | .lay x true => [x.p0]
  | .neg => []
  | .drop lo hi => [128 * lo, 128 * hi]
noncomputable def Deed.words (d : Deed) : List (List Nat) := d.name :: d.args.map digs
noncomputable def Deed.ok : Deed → Prop
  | .lay x g => x.ok ∧ (g = true → x.p0 = x.p1 ∧ x.p1 = x.p2)
  | .neg => True
  | .drop lo hi => 0 ≤ lo ∧ lo ≤ 16 ∧ lo < hi ∧ hi ≤ 20
/-- a colour turned over -/
noncomputable def Spot.over (x : Spot) : Spot := ⟨(x.h + 32).fmod 64, 16 - x.l, x.s⟩
/-- what stands between two lightnesses, taken out -/
noncomputable def outOf (lo hi : Int) (xs : List Spot) : List Spot := xs.filter fun y => !(decide (lo ≤ y.l) && decide (y.l < hi))
/-- in order of lightness -/
def Ord (xs : List Spot) : Prop := xs.Pairwise fun a b => a.l ≤ b.l
/-- what a deed does to the row -/
noncomputable def Deed.act : Deed → List Spot × Bool → List Spot × Bool
  | .lay x _, (xs, false) => (layR x xs, false)
  | .lay x _, (xs, true) => (layL x xs, true)
  | .neg, (xs, odd) => ((xs.reverse.map Spot.over), !odd)
  | .drop lo hi, (xs, odd) => (outOf lo hi xs, odd)
theorem str_ext {r x : Str} (h : r.cps.toList = x.cps.toList) : r = x := by cases r; cases x; exact congrArg Str.mk (Array.toList_inj.mp h)
theorem digit_sign : ∀ c : Nat, 48 ≤ c → c ≤ 57 → Unicode.isDigit c = true := by
  intro c h1 h2
  have k : ∀ n : Fin 10, Unicode.isDigit (48 + n.val) = true := by decide +kernel
  have e : 48 + (⟨c - 48, by omega⟩ : Fin 10).val = c := Nat.add_sub_cancel' h1
  rw [← e]
  exact k _
theorem digs_range {n : Int} (h0 : 0 ≤ n) : digs n ≠ [] ∧ ∀ c ∈ digs n, 48 ≤ c ∧ c ≤ 57 := by
  obtain ⟨m, rfl⟩ := Int.eq_ofNat_of_zero_le h0
  unfold digs
  rw [KIN.signs_num]
  refine ⟨fun e => ?_, fun c hc => ?_⟩
  · have h := toDigits_len_ge 10 m
    rw [List.map_eq_nil_iff.mp e] at h
    exact absurd h (by decide)
  · obtain ⟨ch, hch, e⟩ := List.mem_map.mp hc
    have r := digit_range (Nat.isDigit_of_mem_toDigits (by decide) (by decide) hch)
    rw [← e]
    exact r
theorem digs_digit {r : Str} {n : Int} (h0 : 0 ≤ n) (h : r.cps.toList = digs n) : Txt.isdigit r = true := by
  obtain ⟨h1, h2⟩ := digs_range h0
  show (r.length > 0 && r.cps.all Unicode.isDigit) = true
  rw [Bool.and_eq_true]
  constructor
  · apply decide_eq_true
    show 0 < r.cps.size
    rw [← Array.length_toList, h]
    exact List.length_pos_iff.mpr h1
  · rw [← Array.all_toList, h, List.all_eq_true]
    exact fun c hc => digit_sign c (h2 c hc).1 (h2 c hc).2
theorem notin3 {a x y z : Addr} (h1 : a ≠ x) (h2 : a ≠ y) (h3 : a ≠ z) : a ∉ [x, y, z] := fun q => by
  rcases List.mem_cons.mp q with q | q
  · exact h1 q
  rcases List.mem_cons.mp q with q | q
  · exact h2 q
  · exact h3 (List.mem_singleton.mp q)
theorem in3 {a x y z : Addr} (h : a ∉ [x, y, z]) : a ≠ x ∧ a ≠ y ∧ a ≠ z := ⟨fun q => h (by simp [q]), fun q => h (by simp [q]), fun q => h (by simp [q])⟩
end Mine
end
section
open PySem PySem.W PyProof.Rows PySem.Spec PySem.Calls
set_option Elab.async false
namespace Mine
/-- the words before a deed; behind the last one the empty word is pushed back -/
def AvailE (cs : List Nat) (k : Nat) (vs : List Value) (ds : List Deed) : Prop :=
  (ds ≠ [] ∧ Avail cs k vs (ds.flatMap Deed.words)) ∨ (ds = [] ∧ k = cs.length + 1 ∧ ∃ w tr, vs = [.str w tr] ∧ w.cps.toList = [])
/-- the head of a turn: the deeds before it, the row, the words -/
structure RunAt (w : World) (Z : LexK) (g : Heap) (L it : Addr) (goal : List Spot) (ds : List Deed) (i : Int) (h : Heap) (np k n0 : Nat) (t0 t1 t2 : Tok) (pbs : List Value) (row : Addr) (nr : Nat) (vsr : List Value) (xs : List Spot) (odd : Bool) (cols : List (Addr × Obj)) (m : Str → Option Value) : Prop where
  ok : ∀ d ∈ ds, d.ok
  av : AvailE Z.x.cps.toList k pbs ds
  told : Told [(Str.ofString "lexer", Value.ref Z.lx), (Str.ofString "row", .ref row), (Str.ofString "odd", .bool odd)] m
  F : Fr g L h m
  N : News g L h ((it, rit i ds.length) :: (row, lstO vsr nr) :: (core w.params Z pbs np k n0 t0 t1 t2 ++ cols))
  C : ColsOf cols vsr xs
  sorted : Ord xs
  cols : ∀ p ∈ cols, p.1 ≠ it ∧ p.1 ≠ row ∧ Z.pb < p.1
  r1 : row ≠ it
  r2 : Z.pb < row
  r3 : Z.pb < it
  len : xs.length + ds.length ≤ 20
  goal : (ds.foldl (fun st d => d.act st) (xs, odd)).1 = goal
end Mine
end
section
open PySem PySem.W PyProof.Rows PySem.Spec PySem.Calls
set_option linter.unusedVariables false
namespace Mine
/-- values of ints -/
noncomputable def IntsV : List Value → List Int → Prop
  | [], [] => True
  | .int a _ :: vs, b :: bs => a = b ∧ IntsV vs bs
  | _, _ => False
theorem IntsV.snoc {n : Int} {t : Tok} : ∀ {vs : List Value} {bs : List Int}, IntsV vs bs → IntsV (vs ++ [.int n t]) (bs ++ [n])
  | [], [], _ => ⟨rfl, trivial⟩
  | .int a _ :: vs, b :: bs, h => ⟨h.1, IntsV.snoc h.2⟩
theorem IntsV.len : ∀ {vs : List Value} {bs : List Int}, IntsV vs bs → vs.length = bs.length
  | [], [], _ => rfl
  | .int a _ :: vs, b :: bs, h => by rw [List.length_cons, List.length_cons, IntsV.len h.2]
theorem IntsV.nil {vs : List Value} (h : IntsV vs []) : vs = [] := by
  cases vs with
  | nil => rfl
  | cons v vs => cases v <;> exact h.elim
theorem IntsV.cons {vs : List Value} {b : Int} {bs : List Int} (h : IntsV vs (b :: bs)) : ∃ t vs', vs = .int b t :: vs' ∧ IntsV vs' bs := by
  cases vs with
  | nil => exact h.elim
  | cons v vs =>
    cases v with
    | int a t => obtain ⟨rfl, h⟩ := h; exact ⟨t, vs, rfl, h⟩
    | _ => exact h.elim
theorem not_digit {v : Str} {l : List Nat} (h : v.cps.toList = l) (hl : l = [] ∨ ∃ c ∈ l, Unicode.isDigit c = false) : Txt.isdigit v = false := by
  show (v.length > 0 && v.cps.all Unicode.isDigit) = false
  rw [Bool.and_eq_false_iff]
  rcases hl with e | ⟨c, hc, e⟩
  · left
    apply decide_eq_false
    show ¬ 0 < v.cps.size
    rw [← Array.length_toList, h, e]
    decide
  · right
    rw [← Array.all_toList, h]
    cases q : l.all Unicode.isDigit with
    | false => rfl
    | true => rw [List.all_eq_true.mp q c hc] at e; cases e
theorem name_not (d : Deed) : ∃ c ∈ d.name, Unicode.isDigit c = false := by
  cases d with
  | lay x g => exact ⟨108, by show 108 ∈ (Str.ofString "lay").cps.toList; decide +kernel, by decide +kernel⟩
  | neg => exact ⟨110, by show 110 ∈ (Str.ofString "negative").cps.toList; decide +kernel, by decide +kernel⟩
  | drop lo hi => exact ⟨100, by show 100 ∈ (Str.ofString "drop").cps.toList; decide +kernel, by decide +kernel⟩
theorem rest_not {v : Str} {ds : List Deed} (h : v.cps.toList = (([] : List Int).map digs ++ ds.flatMap Deed.words).headD []) : Txt.isdigit v = false := by
  refine not_digit h ?_
  cases ds with
  | nil => exact .inl rfl
  | cons d ds => exact .inr (name_not d)
theorem args_range {d : Deed} (ok : d.ok) : ∀ n ∈ d.args, 0 ≤ n ∧ n ≤ 2560 := by
  intro n hn
  cases d with
  | lay x g =>
    have r := Spot.range ok.1
    cases g
    · rcases List.mem_cons.mp hn with rfl | hn
      · omega
      rcases List.mem_cons.mp hn with rfl | hn
      · omega
      rcases List.mem_singleton.mp hn with rfl
      omega
    · rcases List.mem_singleton.mp hn with rfl
      omega
  | neg => cases hn
  | drop lo hi =>
    obtain ⟨h1, h2, h3, h4⟩ := ok
    rcases List.mem_cons.mp hn with rfl | hn
    · omega
    rcases List.mem_singleton.mp hn with rfl
    omega
theorem args_len (d : Deed) : d.args.length ≤ 3 := by
  cases d with
  | lay x g =>
    cases g
    · show 3 ≤ 3; decide
    · show 1 ≤ 3; decide
  | neg => show 0 ≤ 3; decide
  | drop lo hi => show 2 ≤ 3; decide
theorem mem_mid {α : Type} {l a b : List α} {x : α} (h : l = a ++ x :: b) : x ∈ l := by rw [h]; exact List.mem_append_right _ (List.Mem.head _)
theorem allLt_at {d : Addr} : ∀ {l : List (Addr × Obj)}, AllLt d l → ∀ p ∈ l, p.1 < d
  | [], _, _, h => nomatch h
  | q :: r, h, p, hp => by
    rcases List.mem_cons.mp hp with rfl | hp
    · exact h.1
    · exact allLt_at h.2 p hp
/-- the tail of the ledger: none of it is the new object -/
theorem tail_ne {a : Addr} {cols : List (Addr × Obj)} (h : AllLt a cols) : ∀ p ∈ cols, p.1 ≠ a := fun p hp => Nat.ne_of_lt (allLt_at h p hp)
theorem push_vals {vs : List Value} {v : Value} {n : Nat} {a : Addr} : (a, W.listOf (vs.toArray.push v) n) = (a, lstO (vs ++ [v]) n) := by rw [List.push_toArray]
end Mine
end
section
open PySem PySem.W PyProof.Rows PySem.Spec PySem.Calls
set_option linter.unusedVariables false
namespace Mine
theorem Ord.sorted {xs : List Spot} (h : Ord xs) : ∀ i j : Nat, i ≤ j → j < xs.length → (xs.getD i ⟨0, 0, 0⟩).l ≤ (xs.getD j ⟨0, 0, 0⟩).l := by
  intro i j hij hj
  have e : ∀ k (hk : k < xs.length), xs.getD k ⟨0, 0, 0⟩ = xs[k] := fun k hk => by rw [List.getD_eq_getElem?_getD, List.getElem?_eq_getElem hk]; rfl
  rw [e i (by omega), e j hj]
  rcases Nat.lt_or_eq_of_le hij with c | c
  · exact List.pairwise_iff_getElem.mp h i j (by omega) hj c
  · subst c; exact Int.le_refl _
theorem drop_of {c : Int} {xs : List Spot} (h : Ord xs) : ∀ y ∈ xs.dropWhile (fun y => decide (y.l < c)), c ≤ y.l := by
  induction xs with
  | nil => intro y hy; cases hy
  | cons x xs ih =>
    obtain ⟨h1, h2⟩ := List.pairwise_cons.mp h
    intro y hy
    rw [List.dropWhile_cons] at hy
    by_cases q : x.l < c
    · rw [if_pos (decide_eq_true q)] at hy
      exact ih h2 y hy
    · rw [if_neg (by simpa using q)] at hy
      rcases List.mem_cons.mp hy with rfl | hy
      · omega
      · have := h1 y hy; omega
theorem drop_of' {c : Int} {xs : List Spot} (h : Ord xs) : ∀ y ∈ xs.dropWhile (fun y => decide (y.l ≤ c)), c < y.l := by
  have e : (fun y : Spot => decide (y.l ≤ c)) = fun y => decide (y.l < c + 1) := by
    funext y
    by_cases q : y.l ≤ c
    · rw [decide_eq_true q, decide_eq_true (by omega)]
    · rw [decide_eq_false q, decide_eq_false (by omega)]
  rw [e]
  intro y hy
  have := drop_of h y hy
  omega
theorem take_all {p : Spot → Bool} {xs : List Spot} : ∀ y ∈ xs.takeWhile p, p y = true := by
  induction xs with
  | nil => intro y hy; cases hy
  | cons x xs ih =>
    intro y hy
    rw [List.takeWhile_cons] at hy
    by_cases q : p x = true
    · rw [if_pos q] at hy
      rcases List.mem_cons.mp hy with rfl | hy
      · exact q
      · exact ih y hy
    · rw [if_neg q] at hy; cases hy
theorem ord_lay {x : Spot} {p : Spot → Bool} {xs : List Spot} (h : Ord xs) (h1 : ∀ y, p y = true → y.l ≤ x.l) (h2 : ∀ y ∈ xs.dropWhile p, x.l ≤ y.l) : Ord (xs.takeWhile p ++ x :: xs.dropWhile p) := by
  have hs := List.takeWhile_append_dropWhile (p := p) (l := xs)
  have h' : Ord (xs.takeWhile p ++ xs.dropWhile p) := by rw [hs]; exact h
  obtain ⟨a, b, c⟩ := List.pairwise_append.mp h'
  refine List.pairwise_append.mpr ⟨a, List.pairwise_cons.mpr ⟨h2, b⟩, fun y hy z hz => ?_⟩
  rcases List.mem_cons.mp hz with rfl | hz
  · exact h1 y (take_all y hy)
  · exact c y hy z hz
theorem ord_layR {x : Spot} {xs : List Spot} (h : Ord xs) : Ord (layR x xs) :=
  ord_lay h (fun y q => of_decide_eq_true q) fun y hy => Int.le_of_lt (drop_of' h y hy)
theorem ord_layL {x : Spot} {xs : List Spot} (h : Ord xs) : Ord (layL x xs) :=
  ord_lay h (fun y q => Int.le_of_lt (of_decide_eq_true q)) (drop_of h)
theorem ord_over {xs : List Spot} (h : Ord xs) : Ord (xs.reverse.map Spot.over) := by
  unfold Ord
  rw [List.pairwise_map, List.pairwise_reverse]
  exact h.imp fun {a b} q => by show 16 - b.l ≤ 16 - a.l; omega
theorem ord_sub {xs ys : List Spot} (h : Ord ys) (hs : xs.Sublist ys) : Ord xs := List.Pairwise.sublist hs h
theorem cut_is {lo hi f b : Int} {xs : List Spot} (h : Ord xs) (hlh : lo ≤ hi) (f0 : 0 ≤ f) (f1 : f ≤ xs.length) (b0 : f ≤ b) (b1 : b ≤ xs.length)
    (a1 : ∀ i : Nat, (i : Int) < f → (xs.getD i ⟨0, 0, 0⟩).l < lo) (a2 : ∀ i : Nat, f ≤ (i : Int) → i < xs.length → lo ≤ (xs.getD i ⟨0, 0, 0⟩).l)
    (a3 : ∀ i : Nat, (i : Int) < b → f ≤ (i : Int) → (xs.getD i ⟨0, 0, 0⟩).l < hi) (a4 : ∀ i : Nat, b ≤ (i : Int) → i < xs.length → hi ≤ (xs.getD i ⟨0, 0, 0⟩).l) :
    xs.take f.toNat ++ xs.drop b.toNat = outOf lo hi xs := by
  have gd : ∀ k (hk : k < xs.length), xs.getD k ⟨0, 0, 0⟩ = xs[k] := fun k hk => by rw [List.getD_eq_getElem?_getD, List.getElem?_eq_getElem hk]; rfl
  obtain ⟨b, rfl⟩ := Int.eq_ofNat_of_zero_le (Int.le_trans f0 b0)
  obtain ⟨f, rfl⟩ := Int.eq_ofNat_of_zero_le f0
  replace b0 := Int.ofNat_le.mp b0
  rw [Int.toNat_natCast, Int.toNat_natCast]
  have e : xs = xs.take f ++ ((xs.take b).drop f ++ xs.drop b) := by
    rw [← List.append_assoc]
    have : xs.take f ++ (xs.take b).drop f = xs.take b := by
      have q : xs.take f = (xs.take b).take f := by rw [List.take_take, Nat.min_eq_left b0]
      rw [q, List.take_append_drop]
    rw [this, List.take_append_drop]
  have k1 : ∀ y ∈ xs.take f, y.l < lo := fun y hy => by
    obtain ⟨i, hi, rfl⟩ := List.mem_iff_getElem.mp hy
    rw [List.length_take] at hi
    rw [List.getElem_take, ← gd i (Nat.lt_of_lt_of_le hi (Nat.min_le_right _ _))]
    exact a1 i (Int.ofNat_lt.mpr (Nat.lt_of_lt_of_le hi (Nat.min_le_left _ _)))
  have k2 : ∀ y ∈ (xs.take b).drop f, lo ≤ y.l ∧ y.l < hi := fun y hy => by
    obtain ⟨i, hi, rfl⟩ := List.mem_iff_getElem.mp hy
    rw [List.length_drop, List.length_take] at hi
    have hj : f + i < min b xs.length := by rw [Nat.add_comm]; exact Nat.add_lt_of_lt_sub hi
    have h1 := Nat.lt_of_lt_of_le hj (Nat.min_le_right _ _)
    have h2 := Nat.lt_of_lt_of_le hj (Nat.min_le_left _ _)
    rw [List.getElem_drop, List.getElem_take, ← gd (f + i) h1]
    have h3 := Int.ofNat_le.mpr (Nat.le_add_right f i)
    exact ⟨a2 _ h3 h1, a3 _ (Int.ofNat_lt.mpr h2) h3⟩
  have k3 : ∀ y ∈ xs.drop b, hi ≤ y.l := fun y hy => by
    obtain ⟨i, hi, rfl⟩ := List.mem_iff_getElem.mp hy
    rw [List.length_drop] at hi
    have hj : b + i < xs.length := by rw [Nat.add_comm]; exact Nat.add_lt_of_lt_sub hi
    rw [List.getElem_drop, ← gd (b + i) hj]
    exact a4 _ (Int.ofNat_le.mpr (Nat.le_add_right b i)) hj
  unfold outOf
  conv => rhs; rw [e]
  rw [List.filter_append, List.filter_append]
  have f1 : (xs.take f).filter (fun y => !(decide (lo ≤ y.l) && decide (y.l < hi))) = xs.take f := List.filter_eq_self.mpr fun y hy => by
    have := k1 y hy
    rw [decide_eq_false (Int.not_le.mpr this)]; rfl
  have f2 : ((xs.take b).drop f).filter (fun y => !(decide (lo ≤ y.l) && decide (y.l < hi))) = [] := List.filter_eq_nil_iff.mpr fun y hy => by
    have := k2 y hy
    rw [decide_eq_true this.1, decide_eq_true this.2]; exact Bool.false_ne_true
  have f3 : (xs.drop b).filter (fun y => !(decide (lo ≤ y.l) && decide (y.l < hi))) = xs.drop b := List.filter_eq_self.mpr fun y hy => by
    have := k3 y hy
    rw [decide_eq_false (Int.not_lt.mpr this), Bool.and_false]; rfl
  rw [f1, f2, f3, List.nil_append]
theorem ord_out {lo hi : Int} {xs : List Spot} (h : Ord xs) : Ord (outOf lo hi xs) := ord_sub h List.filter_sublist
end Mine
end
section
open PySem PySem.W PyProof.Rows PySem.Spec PySem.Calls
set_option linter.unusedVariables false
namespace Mine
section
variable {p : Program} {loose : List Str} {mean : ExcName → Option Value} {mg mb : Str → Option Value} {w : World} {dp un : Nat} {fr : List Env} {gd : Option (List Code)} {s : Shared} {E : Value → Shared → Prop} {g : Heap} {L : Addr} {m : Str → Option Value}
  {row col : Addr} {n cn : Nat} {c1 c2 c3 : Tok} {x : Spot} {vs : List Value} {xs : List Spot} {pre cols : List (Addr × Obj)} {Z : LexK} {pbs : List Value} {np k n0 : Nat} {t0 t1 t2 : Tok}
theorem led_chg1 {h h' : Heap} {a : Addr} {o o' : Obj} {pre post : List (Addr × Obj)} (N : News g L h (pre ++ (a, o) :: post)) (B : But [a] h h') (e : h'.get? a = some o') (h1 : ∀ p ∈ pre, p.1 ≠ a) (h2 : ∀ p ∈ post, p.1 ≠ a) : News g L h' (pre ++ (a, o') :: post) := by
  intro p hp
  rcases List.mem_append.mp hp with hp | hp
  · have n := N p (List.mem_append_left _ hp)
    exact ⟨B.get _ _ (fun q => h1 p hp (List.mem_singleton.mp q)) n.1, n.2⟩
  rcases List.mem_cons.mp hp with rfl | hp
  · exact ⟨e, (N (a, o) (List.mem_append_right _ (List.Mem.head _))).2⟩
  · have n := N p (List.mem_append_right _ (List.Mem.tail _ hp))
    exact ⟨B.get _ _ (fun q => h2 p hp (List.mem_singleton.mp q)) n.1, n.2⟩
theorem ColsOf.lay {vs : List Value} {xs : List Spot} {cols : List (Addr × Obj)} {col : Addr} {o : Obj} {x : Spot} (r : Nat) (hC : ColsOf cols vs xs) (ok : x.ok) (ho : ∃ t1 t2 t3 n, o = tupO [.int x.p0 t1, .int x.p1 t2, .int x.p2 t3] n) :
    ColsOf ((col, o) :: cols) (vs.take r ++ .ref col :: vs.drop r) (xs.take r ++ x :: xs.drop r) := by
  have hm := ColsOf.mono (cols' := (col, o) :: cols) (fun p hp => List.Mem.tail _ hp) hC
  obtain ⟨t1, t2, t3, n, rfl⟩ := ho
  exact ColsOf.append (ColsOf.take r hm) ⟨ok, ⟨t1, t2, t3, n, List.Mem.head _⟩, ColsOf.drop r hm⟩
theorem notin_core {Z : LexK} {a : Addr} (Y : LexOk w Z) (h : Z.pb < a) : a ∉ [Z.ld, Z.F.l, Z.pb] := by
  have c := fun p hp => Nat.ne_of_gt (Nat.lt_of_le_of_lt (core_lt (pbs := []) (np := 0) (k := 0) (n0 := 0) (t0 := 0) (t1 := 0) (t2 := 0) Y p hp) h)
  intro q
  rcases List.mem_cons.mp q with q | q
  · exact c _ (.tail _ (.head _)) q
  rcases List.mem_cons.mp q with q | q
  · exact c (Z.F.l, lstO [.int 0 0] 0) (by k_mem) q
  · exact Nat.ne_of_gt h (List.mem_singleton.mp q)
theorem post_ne {Z : LexK} {pbs : List Value} {np k n0 : Nat} {t0 t1 t2 : Tok} (Y : LexOk w Z) (hr : Z.pb < row) (hc : ∀ p ∈ cols, p.1 ≠ row) : ∀ p ∈ core w.params Z pbs np k n0 t0 t1 t2 ++ cols, p.1 ≠ row := fun p hp => by
  rcases List.mem_append.mp hp with hp | hp
  · exact Nat.ne_of_lt (Nat.lt_of_le_of_lt (core_lt Y p hp) hr)
  · exact hc p hp
theorem insL_step {Q : Value → Shared → Prop} (F : Fr g L s.heap m) (Y : LexOk w Z) (N : News g L s.heap (pre ++ (row, lstO vs n) :: (core w.params Z pbs np k n0 t0 t1 t2 ++ cols))) (X : (hd.heap_1 w.params).In g) (T : Top p loose mean mg mb g) (hdp : dp + 60 < recursionLimit) (hun : un + 600 < cLine)
    (hz : xs.length ≤ 20) (h1 : ∀ p ∈ pre, p.1 ≠ row) (hr : Z.pb < row) (hcr : ∀ p ∈ cols, p.1 ≠ row) (hC : ColsOf cols vs xs) (ok : x.ok) (ho : Ord xs)
    (hcol : (col, tupO [.int x.p0 c1, .int x.p1 c2, .int x.p2 c3] cn) ∈ pre)
    (h : ∀ vs' n' h' tk', Fr g L h' m → News g L h' (pre ++ (row, lstO vs' n') :: (core w.params Z pbs np k n0 t0 t1 t2 ++ cols)) → ColsOf ((col, tupO [.int x.p0 c1, .int x.p1 c2, .int x.p2 c3] cn) :: cols) vs' (layL x xs) → Q .none { s with heap := h', toks := tk' }) :
    wpAny (model PySem.Challenge.pw_pg0177_01 w) (arnd dp un fr gd) (call (.ref 48) [.ref row, .ref col] [(Str.ofString "key", .ref 125)]) Q E s := by
  have nr := N (row, lstO vs n) (List.mem_append_right _ (List.Mem.head _))
  refine insL F.keep X T (by omega) (by omega) (by omega) nr.2.2 nr.1 (ColsOf.are N (fun p hp => List.mem_append_right _ (List.Mem.tail _ (List.mem_append_right _ hp))) hC) ok ⟨_, _, _, _, (N _ (List.mem_append_left _ hcol)).1⟩ ho.sorted fun r h' tk' n' B r0 r1 ra rb e => ?_
  have F' := Fr.but F B (fun a ha => by rcases List.mem_singleton.mp ha with rfl; exact nr.2)
  refine h _ n' h' tk' F' (led_chg1 N B e h1 (post_ne Y hr hcr)) ?_
  rw [← layL_of r0 r1 ra rb]
  exact ColsOf.lay _ hC ok ⟨_, _, _, _, rfl⟩
theorem insR_step {Q : Value → Shared → Prop} (F : Fr g L s.heap m) (Y : LexOk w Z) (N : News g L s.heap (pre ++ (row, lstO vs n) :: (core w.params Z pbs np k n0 t0 t1 t2 ++ cols))) (X : (hd.heap_1 w.params).In g) (T : Top p loose mean mg mb g) (hdp : dp + 60 < recursionLimit) (hun : un + 600 < cLine)
    (hz : xs.length ≤ 20) (h1 : ∀ p ∈ pre, p.1 ≠ row) (hr : Z.pb < row) (hcr : ∀ p ∈ cols, p.1 ≠ row) (hC : ColsOf cols vs xs) (ok : x.ok) (ho : Ord xs)
    (hcol : (col, tupO [.int x.p0 c1, .int x.p1 c2, .int x.p2 c3] cn) ∈ pre)
    (h : ∀ vs' n' h' tk', Fr g L h' m → News g L h' (pre ++ (row, lstO vs' n') :: (core w.params Z pbs np k n0 t0 t1 t2 ++ cols)) → ColsOf ((col, tupO [.int x.p0 c1, .int x.p1 c2, .int x.p2 c3] cn) :: cols) vs' (layR x xs) → Q .none { s with heap := h', toks := tk' }) :
    wpAny (model PySem.Challenge.pw_pg0177_01 w) (arnd dp un fr gd) (call (.ref 30) [.ref row, .ref col] [(Str.ofString "key", .ref 125)]) Q E s := by
  have nr := N (row, lstO vs n) (List.mem_append_right _ (List.Mem.head _))
  refine insR F.keep X T (by omega) (by omega) (by omega) nr.2.2 nr.1 (ColsOf.are N (fun p hp => List.mem_append_right _ (List.Mem.tail _ (List.mem_append_right _ hp))) hC) ok ⟨_, _, _, _, (N _ (List.mem_append_left _ hcol)).1⟩ ho.sorted fun r h' tk' n' B r0 r1 ra rb e => ?_
  have F' := Fr.but F B (fun a ha => by rcases List.mem_singleton.mp ha with rfl; exact nr.2)
  refine h _ n' h' tk' F' (led_chg1 N B e h1 (post_ne Y hr hcr)) ?_
  rw [← layR_of r0 r1 ra rb]
  exact ColsOf.lay _ hC ok ⟨_, _, _, _, rfl⟩
end
end Mine
end
section
open PySem PySem.W PyProof.Rows PySem.Spec PySem.Calls
set_option linter.unusedVariables false
namespace Mine
theorem avail_back {cs : List Nat} {k : Nat} {v : Str} {tr : Tok} {ds : List Deed} (hv : v.cps.toList = (([] : List Int).map digs ++ ds.flatMap Deed.words).headD []) (ha : After cs k (([] : List Int).map digs ++ ds.flatMap Deed.words)) : AvailE cs k [.str v tr] ds := by
  cases ds with
  | nil => exact .inr ⟨rfl, ha, v, tr, rfl, hv⟩
  | cons d ds => exact .inl ⟨List.cons_ne_nil _ _, .inr ⟨v, tr, d.args.map digs ++ ds.flatMap Deed.words, rfl, by rw [hv]; rfl, ha⟩⟩
theorem layL_len {x : Spot} {xs : List Spot} : (layL x xs).length = xs.length + 1 := by
  have := congrArg List.length (List.takeWhile_append_dropWhile (p := fun y : Spot => decide (y.l < x.l)) (l := xs))
  rw [List.length_append] at this
  unfold layL
  rw [List.length_append, List.length_cons]; omega
theorem layR_len {x : Spot} {xs : List Spot} : (layR x xs).length = xs.length + 1 := by
  have := congrArg List.length (List.takeWhile_append_dropWhile (p := fun y : Spot => decide (y.l ≤ x.l)) (l := xs))
  rw [List.length_append] at this
  unfold layR
  rw [List.length_append, List.length_cons]; omega
theorem run_end {w : World} {Z : LexK} {g h : Heap} {L it row : Addr} {goal xs : List Spot} {d0 : Deed} {ds : List Deed} {i : Int} {np k n0 nr : Nat} {t0 t1 t2 tr : Tok} {v : Str} {vs : List Value} {odd : Bool} {cols rest : List (Addr × Obj)} {m : Str → Option Value}
    (hok : ∀ d ∈ d0 :: ds, d.ok) (hv : v.cps.toList = (([] : List Int).map digs ++ ds.flatMap Deed.words).headD []) (ha : After Z.x.cps.toList k (([] : List Int).map digs ++ ds.flatMap Deed.words))
    (hm : Told [(Str.ofString "lexer", Value.ref Z.lx), (Str.ofString "row", .ref row), (Str.ofString "odd", .bool odd)] m) (F : Fr g L h m) (N : News g L h rest)
    (hs : ∀ p ∈ (it, rit (i + 1) ds.length) :: (row, lstO vs nr) :: (core w.params Z [.str v tr] np k n0 t0 t1 t2 ++ cols), p ∈ rest)
    (C : ColsOf cols vs xs) (ho : Ord xs) (hcols : ∀ p ∈ cols, p.1 ≠ it ∧ p.1 ≠ row ∧ Z.pb < p.1) (r1 : row ≠ it) (r2 : Z.pb < row) (r3 : Z.pb < it) (hl : xs.length + ds.length ≤ 20)
    (hg : (ds.foldl (fun st d => d.act st) (xs, odd)).1 = goal) :
    RunAt w Z g L it goal ds (i + 1) h np k n0 t0 t1 t2 [.str v tr] row nr vs xs odd cols m :=
  ⟨fun d hd => hok d (.tail _ hd), avail_back hv ha, hm, F, fun p hp => N p (hs p hp), C, ho, hcols, r1, r2, r3, hl, hg⟩
theorem sub_lay {a f i r : Addr × Obj} {c cols : List (Addr × Obj)} : ∀ p ∈ i :: r :: (c ++ a :: cols), p ∈ a :: f :: i :: r :: (c ++ cols) := by
  intro p hp
  rcases List.mem_cons.mp hp with rfl | hp
  · exact .tail _ (.tail _ (.head _))
  rcases List.mem_cons.mp hp with rfl | hp
  · exact .tail _ (.tail _ (.tail _ (.head _)))
  rcases List.mem_append.mp hp with hp | hp
  · exact .tail _ (.tail _ (.tail _ (.tail _ (List.mem_append_left _ hp))))
  rcases List.mem_cons.mp hp with rfl | hp
  · exact .head _
  · exact .tail _ (.tail _ (.tail _ (.tail _ (List.mem_append_right _ hp))))
end Mine
end
section
open PySem PySem.W PyProof.Rows PySem.Spec PySem.Calls
set_option linter.unusedVariables false
namespace Mine
section
variable {p : Program} {loose : List Str} {mean : ExcName → Option Value} {mg mb : Str → Option Value} {w : World} {dp un : Nat} {fr : List Env} {gd : Option (List Code)} {s : Shared} {E : Value → Shared → Prop} {g : Heap} {L : Addr} {m : Str → Option Value}
  {row : Addr} {n : Nat} {Y lo : Int} {ta tb : Tok} {vs : List Value} {xs : List Spot} {pre cols : List (Addr × Obj)} {Z : LexK} {pbs : List Value} {np k n0 : Nat} {t0 t1 t2 : Tok}
theorem bisL2_step {Q : Value → Shared → Prop} (F : Fr g L s.heap m) (N : News g L s.heap (pre ++ (row, lstO vs n) :: (core w.params Z pbs np k n0 t0 t1 t2 ++ cols))) (X : (hd.heap_1 w.params).In g) (T : Top p loose mean mg mb g) (hdp : dp + 60 < recursionLimit) (hun : un + 600 < cLine)
    (hz : xs.length ≤ 20) (hC : ColsOf cols vs xs) (ho : Ord xs) (hY0 : 0 ≤ Y) (hY1 : Y ≤ 30)
    (h : ∀ (r : Int) t h' tk', Fr g L h' m → News g L h' (pre ++ (row, lstO vs n) :: (core w.params Z pbs np k n0 t0 t1 t2 ++ cols)) → 0 ≤ r → r ≤ xs.length → (∀ i : Nat, (i : Int) < r → (xs.getD i ⟨0, 0, 0⟩).l < Y) → (∀ i : Nat, r ≤ (i : Int) → i < xs.length → Y ≤ (xs.getD i ⟨0, 0, 0⟩).l) → Q (.int r t) { s with heap := h', toks := tk' }) :
    wpAny (model PySem.Challenge.pw_pg0177_01 w) (arnd dp un fr gd) (call (.ref 57) [.ref row, .float (fq (128 * Y)) ta] [(Str.ofString "key", .ref 125)]) Q E s := by
  have nr := N (row, lstO vs n) (List.mem_append_right _ (List.Mem.head _))
  refine bisL2 (tb := ta) F.keep X T (by omega) (by omega) hY0 hY1 (by omega) nr.1 (ColsOf.are N (fun p hp => List.mem_append_right _ (List.Mem.tail _ (List.mem_append_right _ hp))) hC) ho.sorted fun r t h' tk' B r0 r1 ra rb => ?_
  exact h r t h' tk' (Fr.pure F B) (News.pure N B) r0 r1 (fun i hi => ra i hi (by omega)) rb
theorem bisL3_step {Q : Value → Shared → Prop} (F : Fr g L s.heap m) (N : News g L s.heap (pre ++ (row, lstO vs n) :: (core w.params Z pbs np k n0 t0 t1 t2 ++ cols))) (X : (hd.heap_1 w.params).In g) (T : Top p loose mean mg mb g) (hdp : dp + 60 < recursionLimit) (hun : un + 600 < cLine)
    (hz : xs.length ≤ 20) (hC : ColsOf cols vs xs) (ho : Ord xs) (hY0 : 0 ≤ Y) (hY1 : Y ≤ 30) (h0 : 0 ≤ lo) (hlo : lo ≤ xs.length)
    (h : ∀ (r : Int) t h' tk', Fr g L h' m → News g L h' (pre ++ (row, lstO vs n) :: (core w.params Z pbs np k n0 t0 t1 t2 ++ cols)) → lo ≤ r → r ≤ xs.length → (∀ i : Nat, (i : Int) < r → lo ≤ (i : Int) → (xs.getD i ⟨0, 0, 0⟩).l < Y) → (∀ i : Nat, r ≤ (i : Int) → i < xs.length → Y ≤ (xs.getD i ⟨0, 0, 0⟩).l) → Q (.int r t) { s with heap := h', toks := tk' }) :
    wpAny (model PySem.Challenge.pw_pg0177_01 w) (arnd dp un fr gd) (call (.ref 57) [.ref row, .float (fq (128 * Y)) ta, .int lo tb] [(Str.ofString "key", .ref 125)]) Q E s := by
  have nr := N (row, lstO vs n) (List.mem_append_right _ (List.Mem.head _))
  refine bisL3 F.keep X T (by omega) (by omega) h0 hlo hY0 hY1 (by omega) nr.1 (ColsOf.are N (fun p hp => List.mem_append_right _ (List.Mem.tail _ (List.mem_append_right _ hp))) hC) ho.sorted fun r t h' tk' B r0 r1 ra rb => ?_
  exact h r t h' tk' (Fr.pure F B) (News.pure N B) r0 r1 ra rb
end
theorem div_big {n : Int} (h : 0 ≤ n ∧ n ≤ 20) : DivIs (128 * n) 2048 (128 * n) := ⟨rfl, ⟨by omega, by omega⟩, ⟨by omega, by omega⟩, ⟨by omega, by omega⟩, by omega⟩
end Mine
namespace Mine
theorem pick_upto {vs : List Value} {y : Int} (h0 : 0 ≤ y) (h1 : y ≤ vs.length) : (slicePick vs.toArray none (some y) none).toList = vs.take y.toNat := by
  obtain ⟨b, rfl⟩ := Int.eq_ofNat_of_zero_le h0
  have hb : b ≤ vs.toArray.size := by rw [List.size_toArray]; omega
  have := slicePick_upto vs.toArray b hb
  rw [show ((b : Nat) : Int) = Int.ofNat b from rfl] at this
  rw [show ((b : Nat) : Int) = Int.ofNat b from rfl, this]
  simp
theorem pick_from {vs : List Value} {x : Int} (h0 : 0 ≤ x) (h1 : x ≤ vs.length) : (slicePick vs.toArray (some x) none none).toList = vs.drop x.toNat := by
  obtain ⟨b, rfl⟩ := Int.eq_ofNat_of_zero_le h0
  have hb : b ≤ vs.toArray.size := by rw [List.size_toArray]; omega
  have := slicePick_from vs.toArray b hb
  rw [show ((b : Nat) : Int) = Int.ofNat b from rfl] at this
  rw [show ((b : Nat) : Int) = Int.ofNat b from rfl, this]
  simp
theorem small_sz {vs : List Value} (h : vs.length ≤ 1000) : vs.toArray.size ≤ sizeLine := by
  rw [List.size_toArray]
  exact Nat.le_trans h (by decide)
end Mine
namespace Mine
theorem sub_drop {I b a f i r : Addr × Obj} {c cols : List (Addr × Obj)} : ∀ p ∈ i :: I :: (c ++ cols), p ∈ I :: b :: a :: f :: i :: r :: (c ++ cols) := by
  intro p hp
  rcases List.mem_cons.mp hp with rfl | hp
  · exact .tail _ (.tail _ (.tail _ (.tail _ (.head _))))
  rcases List.mem_cons.mp hp with rfl | hp
  · exact .head _
  · exact .tail _ (.tail _ (.tail _ (.tail _ (.tail _ (.tail _ hp)))))
theorem cut_cols {cols : List (Addr × Obj)} {vs : List Value} {xs : List Spot} {lo hi f b : Int} (hC : ColsOf cols vs xs) (h : Ord xs) (hlh : lo ≤ hi) (f0 : 0 ≤ f) (f1 : f ≤ xs.length) (b0 : f ≤ b) (b1 : b ≤ xs.length)
    (a1 : ∀ i : Nat, (i : Int) < f → (xs.getD i ⟨0, 0, 0⟩).l < lo) (a2 : ∀ i : Nat, f ≤ (i : Int) → i < xs.length → lo ≤ (xs.getD i ⟨0, 0, 0⟩).l)
    (a3 : ∀ i : Nat, (i : Int) < b → f ≤ (i : Int) → (xs.getD i ⟨0, 0, 0⟩).l < hi) (a4 : ∀ i : Nat, b ≤ (i : Int) → i < xs.length → hi ≤ (xs.getD i ⟨0, 0, 0⟩).l) : ColsOf cols (vs.take f.toNat ++ vs.drop b.toNat) (outOf lo hi xs) := by
  rw [← cut_is h hlh f0 f1 b0 b1 a1 a2 a3 a4]
  exact ColsOf.append (ColsOf.take _ hC) (ColsOf.drop _ hC)
theorem cols_far {a I : Addr} {Z : LexK} {row : Addr} {cols : List (Addr × Obj)} (h : ∀ p ∈ cols, p.1 ≠ a ∧ p.1 ≠ row ∧ Z.pb < p.1) (hI : AllLt I cols) : ∀ p ∈ cols, p.1 ≠ a ∧ p.1 ≠ I ∧ Z.pb < p.1 := fun p hp => ⟨(h p hp).1, Nat.ne_of_lt (allLt_at hI p hp), (h p hp).2.2⟩
end Mine
namespace Mine
theorem core_same {P : Params} {Z : LexK} {h : Heap} {vs vs' : List Value} {np np' k k' n0 n0' : Nat} {t0 t1 t2 t0' t1' t2' : Tok} (e : ∀ p ∈ core P Z vs' np' k' n0' t0' t1' t2', h.get? p.1 = some p.2) :
    ∀ p ∈ core P Z vs np k n0 t0 t1 t2, p.1 ∉ [Z.ld, Z.F.l, Z.pb] → h.get? p.1 = some p.2 := by
  refine List.forall_mem_cons.mpr ⟨fun _ => e _ (by k_mem), ?_⟩
  refine List.forall_mem_cons.mpr ⟨fun n => absurd (List.Mem.head _) n, ?_⟩
  refine List.forall_mem_cons.mpr ⟨fun _ => e _ (by k_mem), ?_⟩
  refine List.forall_mem_cons.mpr ⟨fun _ => e _ (by k_mem), ?_⟩
  refine List.forall_mem_cons.mpr ⟨fun _ => e _ (by k_mem), ?_⟩
  refine List.forall_mem_cons.mpr ⟨fun _ => e _ (by k_mem), ?_⟩
  refine List.forall_mem_cons.mpr ⟨fun _ => e _ (by k_mem), ?_⟩
  refine List.forall_mem_cons.mpr ⟨fun _ => e _ (by k_mem), ?_⟩
  refine List.forall_mem_cons.mpr ⟨fun n => absurd (List.Mem.tail _ (List.Mem.head _)) n, ?_⟩
  exact List.forall_mem_cons.mpr ⟨fun n => absurd (List.Mem.tail _ (List.Mem.tail _ (List.Mem.head _))) n, List.forall_mem_nil _⟩
theorem core_addr {w : World} {Z : LexK} {vs : List Value} {np k n0 : Nat} {t0 t1 t2 : Tok} {a : Addr} (Y : LexOk w Z) (h : Z.pb < a) : a ∉ (core w.params Z vs np k n0 t0 t1 t2).map Prod.fst := fun q => by
  obtain ⟨p, hp, e⟩ := List.mem_map.mp q
  have := core_lt Y p hp
  rw [e] at this
  exact Nat.lt_irrefl _ (Nat.lt_of_lt_of_le h this)
end Mine
end
section
open PySem PySem.W PyProof.Rows PySem.Spec PySem.Calls PyProof.Rows.LCg
set_option linter.unusedVariables false
namespace Mine
section
variable {prog : Program} {w : World} {A : Around} {E : Value → Shared → Prop} {s : Shared} {h₀ : Heap} {L : Addr} {m : Str → Option Value} {env : Env}
/-- a turn of a block over threes: the item is a tuple of three, the element's walk leads on -/
def Turn3 (prog : Program) (w : World) (A : Around) (h₀ : Heap) (L : Addr) (m : Str → Option Value) (env : Env) (elt : Expr) (x x₂ x₃ : Str) (scope : Scope) (cl : List (Str × Addr)) (s : Shared) (S : List (Addr × Obj) → Prop) (J : Nat → List Value → List (Addr × Obj) → Prop) (i : Nat) (v : Value) (ys : List Value) (nw : List (Addr × Obj)) : Prop :=
  ∃ (t : Addr) (ot : Obj) (a b c : Value) (nt : Nat), v = .ref t ∧ (t, ot) ∈ nw ∧ ot.cls = .type "tuple" ∧ ot.data = .seq #[a, b, c] nt ∧
    ∀ I oI C oC D m₂ h tk (E' : Value → Shared → Prop), NsObj oC m₂ → m₂ x = some a → m₂ x₂ = some b → m₂ x₃ = some c → Fr h₀ L h m → News h₀ L h ((I, oI) :: (C, oC) :: (D, lst ys) :: nw) → Off3 I C D nw → ((@Ne Nat I C) ∧ (@Ne Nat I D) ∧ (@Ne Nat C D)) →
      wpAny (model prog w) A (eval elt (compEnvC scope cl C env)) (CompEnd h₀ L m { s with heap := h, toks := tk } I oI C oC D (lst ys) S (fun y nw' => J (i + 1) (ys ++ [y]) nw')) E' { s with heap := h, toks := tk }
/-- what of a block's state stands between two turns -/
structure Mid3 (h₀ : Heap) (L : Addr) (m : Str → Option Value) (ax I C D : Addr) (its : Array Value) (J : Nat → List Value → List (Addr × Obj) → Prop) (h : Heap) (i : Nat) (ys : List Value) (m' : Str → Option Value) (nw : List (Addr × Obj)) : Prop where
  len : ys.length = i
  it : h.IsListIter I ax i
  src : h.IsList ax its
  F : Fr h₀ L h m
  ns : h.Ns C m'
  N : News h₀ L h ((D, lst ys) :: nw)
  off : Off3 I C D nw
  S : SrcAt h₀ ax its nw
  J : J i ys nw
theorem loop3 {elt iter : Expr} {x x₂ x₃ : Str} {px px₂ px₃ tp : Pos} {tk0} {scope : Scope} {cl : List (Str × Addr)} {pos : Pos} {ax I C D : Addr} {its : Array Value} {R : Result → Shared → Prop} (J : Nat → List Value → List (Addr × Obj) → Prop)
    (hh : A.handled = none) (hkind : scope.kind = .function) (hx : scope.names.lookup x = some .local) (hx₂ : scope.names.lookup x₂ = some .local) (hx₃ : scope.names.lookup x₃ = some .local) (n12 : x ≠ x₂) (n13 : x ≠ x₃) (n23 : x₂ ≠ x₃)
    (nIC : I ≠ C) (nID : I ≠ D) (nCD : C ≠ D) (nIa : I ≠ ax) (nCa : C ≠ ax) (nDa : D ≠ ax) (nLI : L ≠ I) (nCL : C ≠ L) (nDL : D ≠ L) (gI : h₀.get? I = none) (gC : h₀.get? C = none) (gD : h₀.get? D = none) (hsz : its.size ≤ sizeLine)
    {m' : Str → Option Value} {nw : List (Addr × Obj)} (M : Mid3 h₀ L m ax I C D its J s.heap 0 [] m' nw)
    (turn : ∀ i v ys nw, its[i]? = some v → J i ys nw → Turn3 prog w A h₀ L m env elt x x₂ x₃ scope cl s (SrcAt h₀ ax its) J i v ys nw)
    (hR : ∀ h tk ys m' nw, J its.size ys nw → Fr h₀ L h m → h.Ns C m' → News h₀ L h ((D, lst ys) :: nw) → Off3 I C D nw → R (.ok .next) { s with heap := h, toks := tk }) :
    codeAny (model prog w) A (.compLoop (.ListComp elt [⟨.Tuple [.Name x px, .Name x₂ px₂, .Name x₃ px₃] tk0 tp, iter, [], 0⟩] scope pos) 0 (.ref I) (.ref D) (compEnvC scope cl C env)) R s := by
  let Inv1 : Nat → Shared → Prop := fun k s' => ∃ h tk i ys m' nw, s' = { s with heap := h, toks := tk } ∧ i ≤ its.size ∧ k = its.size + 1 - i ∧ Mid3 h₀ L m ax I C D its J h i ys m' nw
  refine LCp.codeAny_compLoop_pair Inv1 ?_ (its.size + 1) ⟨s.heap, s.toks, 0, [], m', nw, rfl, Nat.zero_le _, rfl, M⟩
  rintro k s' ⟨h, tk, i, ys, m', nw, rfl, hi, rfl, M⟩
  have offm := M.off.mem
  by_cases hlt : i < its.size
  · have hv : its[i]? = some its[i] := Array.getElem?_eq_getElem hlt
    obtain ⟨t, ot, a, b, c, nt, ev, hmt, hct, hdt, go⟩ := turn i _ ys nw hv M.J
    rw [ev] at hv
    refine wpAny_pyNext_list_item M.it M.src hv fun h₁ it₁ sb₁ => ?_
    have k₁ := sb₁.extBut
    refine wpAny_letOwnedTupleGo_listiter it₁ ?_
    have tI := offm _ hmt
    have ht : IsTup h₁ t #[a, b, c] := ⟨ot, k₁ _ _ tI.1 (M.N _ (.tail _ hmt)).1, hct, nt, hdt⟩
    refine assign_Tuple_tuple hh ht rfl rfl fun h₂ e₂ => ?_
    have k₂ : ∀ b o, h₁.get? b = some o → h₂.get? b = some o := fun b o e => e₂ b o (Nat.ne_of_lt (Heap.lt_size e)) e
    have kn : (compEnvC scope cl C env).scope.kind = .function := hkind
    have ns₂ : h₂.Ns C m' := (M.ns.at' fun o e => k₁ _ o (Ne.symm nIC) e).at' fun o e => k₂ _ o e
    refine assignInOrder_cons (wpAny_assign_Name (wpAny_storeName_local (lookup_relabel_local hx) ns₂ (fun h₃ n₃ s₃ => ?_) (by simp [compEnvC, relabel, hkind])))
    refine assignInOrder_cons (wpAny_assign_Name (wpAny_storeName_local (lookup_relabel_local hx₂) n₃ (fun h₄ n₄ s₄ => ?_) (by simp [compEnvC, relabel, hkind])))
    refine assignInOrder_cons (wpAny_assign_Name (wpAny_storeName_local (lookup_relabel_local hx₃) n₄ (fun h₅ n₅ s₅ => ?_) (by simp [compEnvC, relabel, hkind])))
    refine assignInOrder_nil ?_
    have up : ∀ b o, b ≠ C → h₁.get? b = some o → h₅.get? b = some o := fun b o q e => s₅.extBut b o q (s₄.extBut b o q (s₃.extBut b o q (k₂ b o e)))
    have upa : ∀ b o, b ≠ C → b ≠ I → h.get? b = some o → h₅.get? b = some o := fun b o q q2 e => up b o q (k₁ b o q2 e)
    have it₅ : h₅.IsListIter I ax (i + 1) := by obtain ⟨o, e, r⟩ := it₁; exact ⟨o, up _ _ nIC e, r⟩
    obtain ⟨oI, eI, rI⟩ := it₅
    obtain ⟨oC, eC, hoC⟩ := ns_obj n₅
    have F₅ : Fr h₀ L h₅ m := ⟨M.F.ns.at' fun o e => upa L o (Ne.symm nCL) nLI e, fun b o e => upa b o (fun q => by rw [q, gC] at e; cases e) (fun q => by rw [q, gI] at e; cases e) (M.F.keep b o e), M.F.above⟩
    have N₅ : News h₀ L h₅ ((I, oI) :: (C, oC) :: (D, lst ys) :: nw) := by
      intro p hp
      rcases List.mem_cons.mp hp with rfl | hp
      · exact ⟨eI, Ne.symm nLI, gI⟩
      rcases List.mem_cons.mp hp with rfl | hp
      · exact ⟨eC, nCL, gC⟩
      refine ⟨upa _ _ ?_ ?_ (M.N p hp).1, (M.N p hp).2⟩
      · rcases List.mem_cons.mp hp with rfl | hp
        · exact Ne.symm nCD
        · exact (offm p hp).2.1
      · rcases List.mem_cons.mp hp with rfl | hp
        · exact Ne.symm nID
        · exact (offm p hp).1
    refine wpAny_mono (go I oI C oC D _ h₅ _ _ hoC (by simp [n12, n13]) (by simp [n23]) (by simp) F₅ N₅ M.off ⟨nIC, nID, nCD⟩) (fun y s₆ h₆ => ?_) fun _ _ e => e
    obtain ⟨h₆, tk₆, nw₆, rfl, F₆, N₆, off₆, S₆, J₆⟩ := h₆
    have off6 := off₆.mem
    have zI := (N₆ (I, oI) (.head _)).1
    have zC := (N₆ (C, oC) (.tail _ (.head _))).1
    have zD := (N₆ (D, lst ys) (.tail _ (.tail _ (.head _)))).1
    have N₆' : News h₀ L h₆ nw₆ := fun p hp => N₆ p (.tail _ (.tail _ (.tail _ hp)))
    have src₆ : h₆.IsList ax its := S₆.list F₆.keep N₆'
    refine append_at (hsz := by show ys.toArray.size ≤ sizeLine; rw [List.size_toArray, M.len]; exact Nat.le_trans hi hsz) zD fun h₇ s₇ d₇ => ?_
    refine ⟨its.size + 1 - (i + 1), by omega, h₇, tk₆, i + 1, ys ++ [y], _, nw₆, rfl, hlt, rfl, ⟨by rw [List.length_append, List.length_singleton, M.len], ⟨oI, s₇.extBut _ _ nID zI, rI⟩, ?_, F₆.change s₇ nDL gD, (hoC.ns zC).sameBut s₇ nCD, ?_, off₆, S₆, J₆⟩⟩
    · obtain ⟨o, e, r⟩ := src₆
      exact ⟨o, s₇.extBut _ _ (Ne.symm nDa) e, r⟩
    · intro p hp
      rcases List.mem_cons.mp hp with rfl | hp
      · exact ⟨d₇.trans (congrArg some (lst_snoc ys y)), nDL, gD⟩
      · exact ⟨s₇.extBut _ _ (off6 p hp).2.2 (N₆' p hp).1, (N₆' p hp).2⟩
  · obtain rfl : i = its.size := Nat.le_antisymm hi (Nat.not_lt.mp hlt)
    refine wpAny_pyNext_list_end hh M.it M.src (by simp) fun h₁ k₁ => ?_
    refine hR h₁ _ ys m' nw M.J ⟨M.F.ns.at' fun o e => k₁ L o nLI e, fun b o e => k₁ b o (fun q => by rw [q, gI] at e; cases e) (M.F.keep b o e), M.F.above⟩ (M.ns.at' fun o e => k₁ _ o (Ne.symm nIC) e) (fun p hp => ⟨k₁ _ _ ?_ (M.N p hp).1, (M.N p hp).2⟩) M.off
    rcases List.mem_cons.mp hp with rfl | hp
    · exact Ne.symm nID
    · exact (offm p hp).1
theorem assign_comp3 {elt iter : Expr} {x x₂ x₃ y : Str} {px px₂ px₃ tp py : Pos} {tk0} {scope : Scope} {cl : List (Str × Addr)} {pos spos : Pos} {Q : Flow → Shared → Prop} (J : Addr → Nat → List Value → List (Addr × Obj) → Prop)
    (F₀ : Fr h₀ L s.heap m) (hLe : env.locals = L)
    (hsw : swapsWith (.ListComp elt [⟨.Tuple [.Name x px, .Name x₂ px₂, .Name x₃ px₃] tk0 tp, iter, [], 0⟩] scope pos) (some (.Name y py)) spos.line env = pure true)
    (hclos : closureFor scope env = pure cl) (hcell : ∀ z ∈ scope.names, z.2 ≠ .cell) (hkind : scope.kind = .function)
    (hnames : ∀ z ∈ scope.names, z.2 = .local → scope.names.lookup z.1 = some .local) (hx : scope.names.lookup x = some .local) (hx₂ : scope.names.lookup x₂ = some .local) (hx₃ : scope.names.lookup x₃ = some .local) (n12 : x ≠ x₂) (n13 : x ≠ x₃) (n23 : x₂ ≠ x₃)
    (hy : env.kindOf y = some .local) (hp : (env.scope.kind == .class || (env.scope.kind == .module && env.locals != env.globals)) = false)
    (h : wpAny (model prog w) A (eval iter env) (fun xv s₁ => ∃ ax its nw, xv = .ref ax ∧ A.handled = none ∧ Fr h₀ L s₁.heap m ∧ News h₀ L s₁.heap nw ∧ SrcAt h₀ ax its nw ∧ its.size ≤ sizeLine ∧ J ax 0 [] nw ∧
      (∀ i v ys nw, its[i]? = some v → J ax i ys nw → Turn3 prog w A h₀ L m env elt x x₂ x₃ scope cl s₁ (SrcAt h₀ ax its) (J ax) i v ys nw) ∧ (∀ ys nw' D h tk, J ax its.size ys nw' → (∀ p ∈ nw, p.1 < D) → Fr h₀ L h (fun z => if z = y then some (.ref D) else m z) → News h₀ L h ((D, lst ys) :: nw') → Off1 D nw' → Q .next { s₁ with heap := h, toks := tk })) E s)
    (hs : ∀ x, foldedSetIterable iter env x = pure x := by intro _; rfl) :
    wpAny (model prog w) A (exec (.Assign [.Name y py] (.ListComp elt [⟨.Tuple [.Name x px, .Name x₂ px₂, .Name x₃ px₃] tk0 tp, iter, [], 0⟩] scope pos) spos) env) Q E s := by
  subst hLe
  rw [exec_Assign_Name_used _ _ _ _ hsw]
  refine wpAny_bind (wpAny_standAt (wpAny_bind ?_))
  show wpAny _ A (do let _ ← comprehension (.ListComp elt [⟨.Tuple [.Name x px, .Name x₂ px₂, .Name x₃ px₃] tk0 tp, iter, [], 0⟩] scope pos) scope env _ (newList []) false (eval iter env) (some (assign (.Name y py) env))) _ _ s
  refine wpAny_bind (wpAny_mono (wpAny_comprehension_free (use := some (assign (.Name y py) env)) (Q := fun _ s' => Q .next s') rfl hs hclos hkind hnames (wpAny_mono h (fun xv s₁ h₁ => ?_) fun _ _ e => e)) (fun _ s' hq => wpAny_pure (wpAny_pure hq)) fun _ _ e => e)
  obtain ⟨ax, its, nw, rfl, hh, F, N, S, hsz, J₀, turn, fin⟩ := h₁
  have hl := S.list F.keep N
  have hlt : ax < s₁.heap.objs.size := by obtain ⟨_, e, _⟩ := hl; exact Heap.lt_size e
  have hLlt : env.locals < s₁.heap.objs.size := F.ns.lt
  refine wpAny_pyIter_list hl (wpAny_newObj_type (hd := by size_fits) (wpAny_newFunctionEnv hcell (by intro y hy; simp at hy) (fun h₁ ns₁ sb₁ => ?_) hkind))
  dsimp only at ns₁ sb₁ ⊢
  generalize e1 : s₁.heap.push { cls := .type "list_iterator", data := .fields #[.ref ax, .int 0 0] } = H1 at ns₁ sb₁ ⊢
  have z1 : H1.objs.size = s₁.heap.objs.size + 1 := by rw [← e1, Heap.size_push]
  generalize e2 : H1.push { cls := .type "list", dict := none, data := .seq ([] : List Value).toArray } = H2 at ns₁ sb₁ ⊢
  have z2 : H2.objs.size = s₁.heap.objs.size + 2 := by rw [← e2, Heap.size_push, z1]
  generalize eI : s₁.heap.objs.size = I at *
  generalize eD : H1.objs.size = D at *
  generalize eC : H2.objs.size = C at *
  have lt1 : I < D := by rw [z1]; exact Nat.lt_succ_self _
  have lt2 : D < C := by rw [z1, z2]; exact Nat.lt_succ_self _
  have lt3 : I < C := Nat.lt_trans lt1 lt2
  have old : ∀ b o, s₁.heap.get? b = some o → h₁.get? b = some o := fun b o e => by
    have lb : b < I := eI ▸ Heap.lt_size e
    exact sb₁.extBut b o (Nat.ne_of_lt (Nat.lt_trans lb lt3)) (Heap.get?_push_of_some _ (by rw [← e2, ← e1]; exact Heap.get?_push_of_some _ (Heap.get?_push_of_some _ e)))
  have atI : h₁.get? I = some { cls := .type "list_iterator", data := .fields #[.ref ax, .int 0 0] } := sb₁.extBut _ _ (Nat.ne_of_lt lt3) (Heap.get?_push_of_some _ (by rw [← e2, ← e1, ← eI]; exact Heap.get?_push_of_some _ (Heap.get?_push_size _ rfl)))
  have atD : h₁.get? D = some (lst []) := sb₁.extBut _ _ (Nat.ne_of_lt lt2) (Heap.get?_push_of_some _ (by rw [← e2, ← eD]; exact Heap.get?_push_size _ rfl))
  have gone : ∀ a, I ≤ a → h₀.get? a = none := fun a ha => by
    cases e : h₀.get? a with
    | none => rfl
    | some o' => exact absurd (eI ▸ Heap.lt_size (F.keep a o' e)) (Nat.not_lt.mpr ha)
  have nlt : ∀ p ∈ nw, p.1 < I := fun p hp => eI ▸ Heap.lt_size (N p hp).1
  have M₀ : Mid3 h₀ env.locals m ax I C D its (J ax) h₁ 0 [] _ nw := ⟨rfl, ⟨_, atI, rfl, rfl⟩, by obtain ⟨o, e, r⟩ := hl; exact ⟨o, old _ _ e, r⟩, F.keeps old, ns₁, fun p hp => by
      rcases List.mem_cons.mp hp with rfl | hp
      · exact ⟨atD, Ne.symm (Nat.ne_of_lt (Nat.lt_trans hLlt lt1)), gone _ (Nat.le_of_lt lt1)⟩
      · exact ⟨old _ _ (N p hp).1, (N p hp).2⟩, Off3.of fun p hp => ⟨Nat.ne_of_lt (nlt p hp), Nat.ne_of_lt (Nat.lt_trans (nlt p hp) lt3), Nat.ne_of_lt (Nat.lt_trans (nlt p hp) lt1)⟩, S, J₀⟩
  have loop : ∀ s₃ : Shared, s₃ = { s₁ with heap := h₁, toks := s₁.toks + ([] : List (Str × Value)).length } →
      codeAny (model prog w) A (.compLoop (.ListComp elt [⟨.Tuple [.Name x px, .Name x₂ px₂, .Name x₃ px₃] tk0 tp, iter, [], 0⟩] scope pos) 0 (.ref I) (.ref D) (compEnvC scope cl C env))
        (compPost (model prog w) A E (some (assign (.Name y py) env)) (fun _ s' => Q .next s') (.ref D) C) s₃ := by
    rintro s₃ rfl
    refine loop3 (J ax) hh hkind hx hx₂ hx₃ n12 n13 n23 (Nat.ne_of_lt lt3) (Nat.ne_of_lt lt1) (Nat.ne_of_gt lt2) (Nat.ne_of_gt hlt) (Nat.ne_of_gt (Nat.lt_trans hlt lt3)) (Nat.ne_of_gt (Nat.lt_trans hlt lt1)) (Nat.ne_of_lt hLlt) (Nat.ne_of_gt (Nat.lt_trans hLlt lt3)) (Nat.ne_of_gt (Nat.lt_trans hLlt lt1))
      (gone _ (Nat.le_refl _)) (gone _ (Nat.le_of_lt lt3)) (gone _ (Nat.le_of_lt lt1)) hsz M₀ turn ?_
    intro h' tk ys m' nw' Jn F' hn N' off
    have offC := off.mem
    show wpAny _ A (assign (.Name y py) env (.ref D)) _ _ _
    refine wpAny_assign_Name (wpAny_storeName_local hy F'.ns (fun h₂ hn₂ hs₂ => ?_) hp)
    have nCL : C ≠ env.locals := Nat.ne_of_gt (Nat.lt_trans hLlt lt3)
    have F₂ : Fr h₀ env.locals h₂ (fun z => if z = y then some (.ref D) else m z) := ⟨hn₂, fun b o e => hs₂.extBut b o (fun q => by rw [q, Heap.get?_none_of_le F'.above] at e; cases e) (F'.keep b o e), F'.above⟩
    refine ⟨m', hn.sameBut hs₂ nCL, fun h'' hs'' => fin ys nw' D h'' _ Jn (fun p hp => Nat.lt_trans (nlt p hp) lt1) (F₂.change hs'' nCL (gone _ (Nat.le_of_lt lt3))) (fun p hp => ?_) off.one⟩
    refine ⟨hs''.extBut _ _ ?_ (hs₂.extBut _ _ (N' p hp).2.1 (N' p hp).1), (N' p hp).2⟩
    rcases List.mem_cons.mp hp with rfl | hp
    · exact Nat.ne_of_lt lt2
    · exact (offC p hp).2.1
  exact codeAny_compStart_list (loop _ rfl) (wpAny_pyIter_listiter ⟨_, atI, rfl, rfl⟩ (loop _ rfl))
end
end Mine
end
section
open PySem PySem.W PyProof.Rows PySem.Spec PySem.Calls
set_option linter.unusedVariables false
namespace Mine
theorem over_h {h : Int} (h0 : 0 ≤ h) (h1 : h < 64) : (h + 32).fmod 64 = if h < 32 then h + 32 else h - 32 := by
  rw [Int.fmod_eq_emod_of_nonneg _ (by decide)]
  split <;> omega
theorem fall_all : ∀ n : Fin 64, ∀ k : Fin 3, fallP (((n.val : Int) + 32).fmod 64) (64 * (k.val : Int)) = 32 - fallP (n.val : Int) (64 * (k.val : Int)) := by decide +kernel
theorem over_fall {h c : Int} (h0 : 0 ≤ h) (h1 : h < 64) (hc : c = 0 ∨ c = 64 ∨ c = 128) : fallP ((h + 32).fmod 64) c = 32 - fallP h c := by
  have e : ((⟨h.toNat, by omega⟩ : Fin 64).val : Int) = h := Int.toNat_of_nonneg h0
  rw [← e]
  rcases hc with rfl | rfl | rfl
  · exact fall_all _ 0
  · exact fall_all _ 1
  · exact fall_all _ 2
theorem over_part {h l s c : Int} (h0 : 0 ≤ h) (h1 : h < 64) (hc : c = 0 ∨ c = 64 ∨ c = 128) : partP ((h + 32).fmod 64) (16 - l) s c = 2048 - partP h l s c := by
  unfold partP
  rw [over_fall h0 h1 hc]
  have e : minI (16 - l) (16 - (16 - l)) = minI l (16 - l) := by
    unfold minI
    repeat' split
    all_goals omega
  rw [e, show (16 : Int) - (32 - fallP h c) = -(16 - fallP h c) by omega, Int.mul_neg]
  generalize s * minI l (16 - l) * (16 - fallP h c) = z
  omega
theorem Spot.over_ok {x : Spot} (ok : x.ok) : x.over.ok := by
  obtain ⟨a, b, c, d, e, f⟩ := ok
  refine ⟨?_, ?_, ?_, ?_, e, f⟩
  · show 0 ≤ (x.h + 32).fmod 64
    exact Int.fmod_nonneg_of_pos _ (by decide)
  · show (x.h + 32).fmod 64 < 64
    exact Int.fmod_lt_of_pos _ (by decide)
  · show 0 ≤ 16 - x.l; omega
  · show 16 - x.l ≤ 16; omega
theorem Spot.over_p {x : Spot} (ok : x.ok) : x.over.p0 = 2048 - x.p0 ∧ x.over.p1 = 2048 - x.p1 ∧ x.over.p2 = 2048 - x.p2 := ⟨over_part ok.1 ok.2.1 (.inl rfl), over_part ok.1 ok.2.1 (.inr (.inl rfl)), over_part ok.1 ok.2.1 (.inr (.inr rfl))⟩
theorem Spot.over_over {x : Spot} (ok : x.ok) : x.over.over = x := by
  obtain ⟨a, b, c, d, e, f⟩ := ok
  obtain ⟨h, l, s⟩ := x
  have a : 0 ≤ h := a
  have b : h < 64 := b
  have e1 : ((h + 32).fmod 64 + 32).fmod 64 = h := by
    have g0 : 0 ≤ (h + 32).fmod 64 := Int.fmod_nonneg_of_pos _ (by decide)
    have g1 : (h + 32).fmod 64 < 64 := Int.fmod_lt_of_pos _ (by decide)
    rw [over_h g0 g1, over_h a b]
    by_cases q : h < 32
    · rw [if_pos q, if_neg (by omega)]; omega
    · rw [if_neg q, if_pos (by omega)]; omega
  have e2 : (16 : Int) - (16 - l) = l := by omega
  show Spot.mk (((h + 32).fmod 64 + 32).fmod 64) (16 - (16 - l)) s = Spot.mk h l s
  rw [e1, e2]
/-- the objects that a block over a list of colours has made, behind the ledger as it was -/
def OverJ (nw0 : List (Addr × Obj)) (zs : List Spot) (low : Addr) (i : Nat) (ys : List Value) (nw : List (Addr × Obj)) : Prop :=
  i ≤ zs.length ∧ ∃ cs, nw = cs ++ nw0 ∧ (∀ p ∈ cs, low < p.1) ∧ ColsOf cs ys ((zs.take i).map Spot.over)
theorem ColsOf.get {cols : List (Addr × Obj)} : ∀ {vs : List Value} {xs : List Spot}, ColsOf cols vs xs → ∀ (i : Nat) (v : Value), vs[i]? = some v → ∃ (y : Spot) (t : Addr) (t1 t2 t3 : Tok) (n : Nat), xs[i]? = some y ∧ y.ok ∧ v = .ref t ∧ (t, tupO [.int y.p0 t1, .int y.p1 t2, .int y.p2 t3] n) ∈ cols
  | [], [], _, _, _, hv => by simp at hv
  | .ref a :: vs, x :: xs, c, 0, v, hv => by
    obtain ⟨ok, ⟨t1, t2, t3, n, hm⟩, r⟩ := c
    exact ⟨x, a, t1, t2, t3, n, rfl, ok, by simpa using hv.symm, hm⟩
  | .ref a :: vs, x :: xs, c, i + 1, v, hv => by
    have := ColsOf.get c.2.2 i v (by simpa using hv)
    simpa using this
theorem Off1.mem {D : Addr} : ∀ {l : List (Addr × Obj)}, LCg.Off1 D l → ∀ p ∈ l, p.1 ≠ D
  | [], _, _, h => nomatch h
  | _ :: _, x, p, h => by
    rcases List.mem_cons.mp h with rfl | h
    · exact x.1
    · exact Off1.mem x.2 p h
theorem sub_neg {D R f i r : Addr × Obj} {cs c cols : List (Addr × Obj)} : ∀ p ∈ i :: D :: (c ++ (cs ++ cols)), p ∈ D :: (cs ++ R :: f :: i :: r :: (c ++ cols)) := by
  intro p hp
  rcases List.mem_cons.mp hp with rfl | hp
  · exact .tail _ (List.mem_append_right _ (.tail _ (.tail _ (.head _))))
  rcases List.mem_cons.mp hp with rfl | hp
  · exact .head _
  rcases List.mem_append.mp hp with hp | hp
  · exact .tail _ (List.mem_append_right _ (.tail _ (.tail _ (.tail _ (.tail _ (List.mem_append_left _ hp))))))
  rcases List.mem_append.mp hp with hp | hp
  · exact .tail _ (List.mem_append_left _ hp)
  · exact .tail _ (List.mem_append_right _ (.tail _ (.tail _ (.tail _ (.tail _ (List.mem_append_right _ hp))))))
theorem over_snoc {cs : List (Addr × Obj)} {ys : List Value} {zs : List Spot} {i : Nat} {y : Spot} {T : Addr} {o : Obj} (h : ColsOf cs ys ((zs.take i).map Spot.over)) (hy : zs[i]? = some y) (ok : y.ok) (ho : ∃ t1 t2 t3 n, o = tupO [.int (2048 - y.p0) t1, .int (2048 - y.p1) t2, .int (2048 - y.p2) t3] n) :
    ColsOf ((T, o) :: cs) (ys ++ [.ref T]) ((zs.take (i + 1)).map Spot.over) := by
  obtain ⟨t1, t2, t3, n, rfl⟩ := ho
  have e : zs.take (i + 1) = zs.take i ++ [y] := by rw [List.take_add_one, hy]; rfl
  rw [e, List.map_append]
  obtain ⟨e0, e1, e2⟩ := Spot.over_p ok
  refine ColsOf.append (ColsOf.mono (fun p hp => .tail _ hp) h) ⟨Spot.over_ok ok, ⟨t1, t2, t3, n, ?_⟩, trivial⟩
  rw [e0, e1, e2]
  exact .head _
theorem pair_in {α : Type} {a b c d e : α} {l c1 cols : List α} (h : e ∈ cols) : e ∈ l ++ a :: b :: c :: d :: (c1 ++ cols) := List.mem_append_right _ (.tail _ (.tail _ (.tail _ (.tail _ (List.mem_append_right _ h)))))
theorem sub_rot {T I C D : Addr × Obj} {l : List (Addr × Obj)} : ∀ p ∈ I :: C :: D :: T :: l, p ∈ T :: I :: C :: D :: l := by
  intro p hp
  rcases List.mem_cons.mp hp with rfl | hp
  · exact .tail _ (.head _)
  rcases List.mem_cons.mp hp with rfl | hp
  · exact .tail _ (.tail _ (.head _))
  rcases List.mem_cons.mp hp with rfl | hp
  · exact .tail _ (.tail _ (.tail _ (.head _)))
  rcases List.mem_cons.mp hp with rfl | hp
  · exact .head _
  · exact .tail _ (.tail _ (.tail _ (.tail _ hp)))
theorem lt_of_get {α : Type} {l : List α} {i : Nat} {x : α} (h : l[i]? = some x) : i + 1 ≤ l.length := by
  obtain ⟨q, _⟩ := List.getElem?_eq_some_iff.mp h
  exact q
end Mine
end
section
open PySem PySem.W PyProof.Rows PySem.Spec PySem.Calls
set_option Elab.async false
namespace Mine
local macro_rules | `(tactic| k_ne) => `(tactic| k_extra "k_ne")
theorem fill_lawRun : hd.heap_1 = hd.heap_1 ∧ PySem.Challenge.rw_pg0177_01 = PySem.Challenge.rw_pg0177_01 := by k_fill; exact ⟨rfl, rfl⟩
set_option pp.maxSteps 900
set_option pp.deepTerms.threshold 6
set_option linter.unusedVariables false
set_option maxRecDepth 100000 in
set_option maxHeartbeats 8000000 in
theorem lawRun {p : Program} {loose : List Str} {mean : ExcName → Option Value} {mg mb : Str → Option Value} {w : World}
    {dp un : Nat} {fr : List Env} {gd : Option (List Code)} {s : Shared} {Q E : Value → Shared → Prop} {g : Heap}
    {Z : LexK} {np k n0 : Nat} {c : Int} {t0 t1 t2 tc : Tok} {ds : List Deed} {goal : List Spot}
    (st : g.StaysIn s.heap) (X : (hd.heap_1 w.params).In g) (T : Top p loose mean mg mb g)
    (hdp : dp + 90 < recursionLimit) (hun : un + 900 < cLine)
    (Y : LexOk w Z) (hobz : ∀ p ∈ core w.params Z [] np k n0 t0 t1 t2, s.heap.get? p.1 = some p.2 ∧ g.get? p.1 = none) (R : Reads Z.x.cps.toList k (ds.flatMap Deed.words)) (hds : ∀ d ∈ ds, d.ok) (hne : ds ≠ []) (hc : c = ds.length) (hgoal : (ds.foldl (fun st d => d.act st) ([], false)).1 = goal) (hc0 : 0 ≤ c) (hc1 : c ≤ 20) (hcs : Z.x.cps.toList.length ≤ 40000)
    (hret : ∀ row vs n cols h' tk' np n0 t0 t1 t2 v tr, But [Z.ld, Z.F.l, Z.pb] s.heap h' → (∀ p ∈ (row, lstO vs n) :: cols, s.heap.get? p.1 = none ∧ h'.get? p.1 = some p.2) → ColsOf cols vs goal → (Str.cps v).toList = [] → (∀ p ∈ core w.params Z [.str v tr] np (Z.x.cps.toList.length + 1) n0 t0 t1 t2, h'.get? p.1 = some p.2) → Q (.ref row) { s with heap := h', toks := tk' }) :
    wpAny (model PySem.Challenge.pw_pg0177_01 w) (arnd dp un fr gd) (call (.ref 130) [.ref Z.lx, .int c tc] []) Q E s := by
  w_top off
  k_with_none
  k_with "k_ne" => ((refine neN ?_); (try dsimp only); (with_reducible rename (_ < _ ∧ _) => l9'); (first | refine Nat.ne_of_gt ?_ | refine Nat.ne_of_lt ?_); (repeat (first | exact l9'.1 | exact l9' | replace l9' := l9'.2)); done)
  k_with "k_ne" => ((refine neN ?_); (try dsimp only); (with_reducible rename (_ < _ ∧ _) => l9'); refine Nat.ne_of_lt ?_; (repeat (first | exact l9'.1 | exact l9' | replace l9' := l9'.2)); done)
  k_with "k_ne" => ((refine neN ?_); (try dsimp only); with_reducible first | assumption | (refine Ne.symm ?_; assumption) | (refine Nat.ne_of_lt ?_; assumption) | (refine Nat.ne_of_gt ?_; assumption))
  k_with "execs cons" => k_fold
  k_with "Exists" => (refine stop_here ?_)
  k_with "exec For Name Call cons nil" => (refine stop_here ?_)
  k_with "exec While Call cons nil" => (refine stop_here ?_)
  k_with "call ref" => (k_dflt ((with_reducible show wpAny _ _ (call (Value.ref 85) _ _) _ _ _); (rename News _ _ _ _ => N'); (rename Fr _ _ _ _ => F'); (rename LexOk _ _ => Y'); (first | (refine get_step (pre := [_, _]) (post := _) Y' F' N' (by assumption) (by assumption) (List.forall_mem_cons.mpr ⟨by assumption, List.forall_mem_cons.mpr ⟨by assumption, List.forall_mem_nil _⟩⟩) (by assumption) (by dsimp only [arnd, Around.deeper]; first | exact room2 (by assumption) (by decide) | omega) (by dsimp only [arnd, Around.deeper]; first | exact room2 (by assumption) (by decide) | omega) (by assumption) (by assumption) ?_) | (refine get_step (pre := [_, _, _]) (post := _) Y' F' N' (by assumption) (by assumption) (List.forall_mem_cons.mpr ⟨notin3 (by k_ne) (by k_ne) (by k_ne), List.forall_mem_cons.mpr ⟨by assumption, List.forall_mem_cons.mpr ⟨by assumption, List.forall_mem_nil _⟩⟩⟩) (by assumption) (by dsimp only [arnd, Around.deeper]; first | exact room2 (by assumption) (by decide) | omega) (by dsimp only [arnd, Around.deeper]; first | exact room2 (by assumption) (by decide) | omega) (by assumption) (Or.inl (And.intro rfl (by assumption))) ?_)); clear N' F'; intro _ _ _ _ _ _ _ _ _ _ F' N' _ _; (dsimp only [core, List.cons_append, List.nil_append] at N')))
  k_with "call ref" => (k_dflt ((with_reducible show wpAny _ _ (call (Value.ref 92) _ _) _ _ _); (rename News _ _ _ _ => N'); (rename Fr _ _ _ _ => F'); (rename LexOk _ _ => Y'); (refine push_step (pre := [_, _, _]) (post := _) Y' F' N' (by assumption) (by assumption) (List.forall_mem_cons.mpr ⟨by assumption, List.forall_mem_cons.mpr ⟨by assumption, List.forall_mem_cons.mpr ⟨by assumption, List.forall_mem_nil _⟩⟩⟩) (by assumption) (by dsimp only [arnd, Around.deeper]; first | exact room2 (by assumption) (by decide) | omega) (by dsimp only [arnd, Around.deeper]; first | exact room2 (by assumption) (by decide) | omega) ?_); clear N' F'; intro _ _ _ _ _ F' N'; (dsimp only [core, List.cons_append, List.nil_append] at N')))
  k_with "call ref" => (k_dflt ((with_reducible show wpAny _ _ (call (Value.ref 30) _ _) _ _ _); (with_unfolding_all show wpAny _ _ (call _ _ [(Str.ofString "key", Value.ref 125)]) _ _ _); (rename News _ _ _ _ => N'); (rename Fr _ _ _ _ => F'); (rename LexOk _ _ => Y'); (refine' insR_step (pre := [_, _, _]) F' Y' N' (by assumption) (by assumption) (by dsimp only [arnd, Around.deeper]; first | exact room2 (by assumption) (by decide) | omega) (by dsimp only [arnd, Around.deeper]; first | exact room2 (by assumption) (by decide) | omega) (by assumption) (by exact List.forall_mem_cons.mpr ⟨by k_ne, List.forall_mem_cons.mpr ⟨by k_ne, List.forall_mem_cons.mpr ⟨by k_ne, List.forall_mem_nil _⟩⟩⟩) (by assumption) (by assumption) (by assumption) (by assumption) (by assumption) (by first | exact List.Mem.head _ | ((rename Spot.p0 _ = Spot.p1 _ => e1'); (rename Spot.p1 _ = Spot.p2 _ => e2'); rw [← e2', ← e1']; exact List.Mem.head _)) ?_); clear N' F'; intro _ _ _ _ F' N' _; (dsimp only [core, List.cons_append, List.nil_append] at N')))
  k_with "call ref" => (k_dflt ((with_reducible show wpAny _ _ (call (Value.ref 48) _ _) _ _ _); (with_unfolding_all show wpAny _ _ (call _ _ [(Str.ofString "key", Value.ref 125)]) _ _ _); (rename News _ _ _ _ => N'); (rename Fr _ _ _ _ => F'); (rename LexOk _ _ => Y'); (refine' insL_step (pre := [_, _, _]) F' Y' N' (by assumption) (by assumption) (by dsimp only [arnd, Around.deeper]; first | exact room2 (by assumption) (by decide) | omega) (by dsimp only [arnd, Around.deeper]; first | exact room2 (by assumption) (by decide) | omega) (by assumption) (by exact List.forall_mem_cons.mpr ⟨by k_ne, List.forall_mem_cons.mpr ⟨by k_ne, List.forall_mem_cons.mpr ⟨by k_ne, List.forall_mem_nil _⟩⟩⟩) (by assumption) (by assumption) (by assumption) (by assumption) (by assumption) (by first | exact List.Mem.head _ | ((rename Spot.p0 _ = Spot.p1 _ => e1'); (rename Spot.p1 _ = Spot.p2 _ => e2'); rw [← e2', ← e1']; exact List.Mem.head _)) ?_); clear N' F'; intro _ _ _ _ F' N' _; (dsimp only [core, List.cons_append, List.nil_append] at N')))
  k_with "binaryOp Div int int" => (k_dflt (refine wIDiv (by assumption) ?_))
  k_with "call ref" => (k_dflt ((with_reducible show wpAny _ _ (call (Value.ref 57) _ _) _ _ _); (with_unfolding_all show wpAny _ _ (call _ [_, _] [(Str.ofString "key", Value.ref 125)]) _ _ _); (rename News _ _ _ _ => N'); (rename Fr _ _ _ _ => F'); (refine' bisL2_step (pre := [_, _]) F' N' (by assumption) (by assumption) (by dsimp only [arnd, Around.deeper]; first | exact room2 (by assumption) (by decide) | omega) (by dsimp only [arnd, Around.deeper]; first | exact room2 (by assumption) (by decide) | omega) (by assumption) (by assumption) (by assumption) (by omega) (by omega) ?_); clear N' F'; intro _ _ _ _ F' N' _ _ _ _; (dsimp only [core, List.cons_append, List.nil_append] at N')))
  k_with "call ref" => (k_dflt ((with_reducible show wpAny _ _ (call (Value.ref 57) _ _) _ _ _); (with_unfolding_all show wpAny _ _ (call _ [_, _, _] [(Str.ofString "key", Value.ref 125)]) _ _ _); (rename News _ _ _ _ => N'); (rename Fr _ _ _ _ => F'); (refine' bisL3_step (pre := [_, _]) F' N' (by assumption) (by assumption) (by dsimp only [arnd, Around.deeper]; first | exact room2 (by assumption) (by decide) | omega) (by dsimp only [arnd, Around.deeper]; first | exact room2 (by assumption) (by decide) | omega) (by assumption) (by assumption) (by assumption) (by omega) (by omega) (by omega) (by omega) ?_); clear N' F'; intro _ _ _ _ F' N' _ _ _ _; (dsimp only [core, List.cons_append, List.nil_append] at N')))
  k_with "subscriptTail Name Slice ref ref" => (k_dflt (k_here; (with_reducible show wpAny _ _ (subscriptTail _ (PySem.Expr.Slice _ _ none _) (Value.ref _) (Value.ref _)) _ _ _); (refine' kmk_slice_lit (by k_asm) (by k_asm) (by exact News.isList (by k_asm) (by k_mem)) (by kmk_part) (by kmk_part) (by first | exact pick_upto (by omega) (by omega) | exact pick_from (by omega) (by omega)) ?_ (by with_unfolding_all rfl) (by kmk_pure) (by exact small_sz (by omega))); intro _ _ F' N' l1; (try k_lt l1); revert l1; intro _))
  k_with "binaryOp Add ref ref" => (k_dflt ((rename News _ _ _ _ => N'); (rename Fr _ _ _ _ => F'); (refine' addL F' N' (by exact (N' _ (List.Mem.tail _ (List.Mem.head _))).1) (by exact (N' _ (List.Mem.head _)).1) (by simp only [List.length_take, List.length_drop]; first | exact cut_sz (hvx ▸ hxl) (by decide) | exact cut_sz (by omega) (by decide) | omega) ?_); clear F' N'; intro _ _ _ F' N' l1; (try k_lt l1); revert l1; intro _))
  k_with "exec Assign cons ListComp" => (refine stop_here ?_)
  k_with "subscriptTail Name Slice ref ref" => (k_here; (with_reducible show wpAny _ _ (subscriptTail _ (PySem.Expr.Slice _ _ (some _) _) (Value.ref _) (Value.ref _)) _ _ _); (k_dflt (refine' krv_lit (by k_asm) (by k_asm) (by exact News.isList (by k_asm) (by k_mem)) (by kmk_part) (by exact rfl) ?_ (by with_unfolding_all rfl) (by kmk_pure) (by exact small_sz (by omega)))); intro _ _ F' N' l1; (try k_lt l1); revert l1; intro _)
  have hob : ∀ p ∈ (core w.params Z [] np k n0 t0 t1 t2 : List (Addr × Obj)), s.heap.get? p.1 = some p.2 ∧ g.get? p.1 = none := hobz
  refine' entered (args := ⟨[.ref Z.lx, .int c tc], []⟩) (ob := core w.params Z [] np k n0 t0 t1 t2) ?k8 st X T ?kO ?k6 ?k7 ?k9 ?kB ?_ ?c2 ?c3 ?c4 ?c5
  case k8 => exact room0 hdp
  case kO => exact hob
  case k6 => k_is
  case k7 => k_is
  case k9 => first | exact BindsTo.of_eq rfl | exact binds_K (X.keeps st) rfl (by k_is) rfl rfl rfl
  case kB => exact locs rfl
  case c2 => exact rfl
  case c3 => exact rfl
  case c4 => exact rfl
  case c5 => decide
  intro g' L' h' hz eL hS hO X' T' F' N'
  clear X T st
  try dsimp only
  show wpAny _ _ _ _ _ _
  k_fold
  dsimp only [core] at N'
  have o9 := Y.o9
  have o8 := Y.o8
  have o7 := Y.o7
  obtain ⟨q1, q2, q3, q4, q5, q6⟩ := Y.fo
  replace q1 := ltN q1; replace q2 := ltN q2; replace q3 := ltN q3; replace q4 := ltN q4; replace q5 := ltN q5; replace q6 := ltN q6; replace o7 := ltN o7; replace o8 := ltN o8; replace o9 := ltN o9
  k_steps
  refine stop_out ?_
  rename News _ _ _ _ => N
  rename Fr _ _ _ _ => F
  refine wpAny_For ?_
  k_steps
  rename News _ _ _ _ => N
  rename Fr _ _ _ _ => F
  rename IsRange _ _ _ _ _ _ _ _ => hrg
  refine rangeIter_K F N hrg hc0 hc1 ?_
  clear F N
  intro it h1' F N l1
  (try k_lt l1)
  subst hc
  let Inv1 : Nat → Shared → Prop := fun n s' => ∃ (ds' : List Deed) (i : Int) (h' : Heap) (tk' : Nat), s' = { s with heap := h', toks := tk' } ∧ n = ds'.length ∧ ∃ np k n0 t0 t1 t2 pbs row nr vsr xs odd cols m', RunAt w Z g' L' it goal ds' i h' np k n0 t0 t1 t2 pbs row nr vsr xs odd cols m'
  refine codeAny_forLoop Inv1 ?turn ds.length ?init
  case init =>
    refine ⟨ds, 0, _, _, rfl, rfl, np, k, n0, t0, t1, t2, [], _, _, [], [], false, [], _, ⟨hds, .inl ⟨hne, .inl ⟨rfl, R⟩⟩, told_cons rfl (told_cons rfl (told_cons rfl told_nil)), F, N, trivial, List.Pairwise.nil, List.forall_mem_nil _, by k_ne, ltN ?_, ltN ?_, by simp; omega, hgoal⟩⟩
    · omega
    · omega
  clear F N
  rintro n s₁ ⟨ds', i, h', tk', rfl, rfl, np, k, n0, t0, t1, t2, pbs, row, nr, vsr, xs, odd, cols, m', J⟩
  have F₁ := Fr.named _ J.F J.told
  dsimp only [nm] at F₁
  refine rangeNext_K rfl F₁ J.N ?hI ?hgo ?hend
  case hI => exact List.forall_mem_cons.mpr ⟨J.r1, post_ne Y J.r3 (fun p hp => (J.cols p hp).1)⟩
  case hend =>
    intro hl h' F N
    obtain ⟨_, hav, _, _, _, hC, _, hcols, hr1, hr2, hr3, _, hgl⟩ := J
    have hl0 : ds' = [] := List.length_eq_zero_iff.mp (by omega)
    subst hl0
    have hgl : xs = goal := hgl
    subst hgl
    obtain ⟨hk, v, tr, rfl, hv⟩ : k = Z.x.cps.toList.length + 1 ∧ ∃ v tr, pbs = [.str v tr] ∧ v.cps.toList = [] := by
      rcases hav with ⟨q, _⟩ | ⟨_, q, v, tr, e, hv⟩
      · exact absurd rfl q
      · exact ⟨q, v, tr, e, hv⟩
    subst hk
    have N0 := N
    dsimp only [core, List.cons_append, List.nil_append] at N
    clear F₁
    k_steps
    clear N
    show Q _ _
    have hcore : ∀ p ∈ core w.params Z [.str v tr] np (Z.x.cps.toList.length + 1) n0 t0 t1 t2, h'.get? p.1 = some p.2 := fun p hp => (N0 p (List.mem_cons_of_mem _ (List.mem_append_left _ hp))).1
    refine hret row vsr nr cols _ _ np n0 t0 t1 t2 v tr ((But.ofFr F hz hS).led hobz (core_same hcore)) (List.forall_mem_cons.mpr ⟨⟨?_, (N0 _ (List.Mem.head _)).1⟩, fun p hp => ⟨?_, (N0 p (List.mem_cons_of_mem _ (List.mem_append_right _ hp))).1⟩⟩) hC hv hcore
    · exact notOld hS (N0 _ (List.Mem.head _)).2.2 (core_addr Y hr2)
    · exact notOld hS (N0 p (List.mem_cons_of_mem _ (List.mem_append_right _ hp))).2.2 (core_addr Y (hcols p hp).2.2)
  intro hl h' tk' F N
  dsimp only [core, List.cons_append, List.nil_append] at N
  clear F₁
  obtain ⟨hok, hav, _, _, _, hC, hsorted, hcols, hr1, hr2, hr3, hlen, hgl⟩ := J
  have hxl : xs.length ≤ 20 := Nat.le_trans (Nat.le_add_right _ _) hlen
  cases ds' with
  | nil => exact absurd hl (by decide)
  | cons d ds' =>
  have hl1 : (((d :: ds').length : Nat) : Int) - 1 = (ds'.length : Int) := by simp only [List.length_cons]; omega
  have hlen2 : xs.length + 1 + ds'.length ≤ 20 := by simp only [List.length_cons] at hlen; omega
  rw [hl1] at N
  have hav : Avail Z.x.cps.toList k pbs (d.name :: (d.args.map digs ++ ds'.flatMap Deed.words)) := by
    rcases hav with ⟨_, h⟩ | ⟨h, _⟩
    · exact h
    · cases h
  replace hr1 := neN hr1
  replace hr2 := ltN hr2
  replace hr3 := ltN hr3
  have hcols3 : ∀ p ∈ cols, p.1 ∉ [Z.ld, Z.F.l, Z.pb] := fun p hp => notin_core Y (hcols p hp).2.2
  have hcr : ∀ p ∈ cols, p.1 ≠ row := fun p hp => (hcols p hp).2.1
  have hr4 : row ∉ [Z.ld, Z.F.l, Z.pb] := notin_core Y hr2
  have hr5 : it ∉ [Z.ld, Z.F.l, Z.pb] := notin_core Y hr3
  k_steps
  refine stop_out ?_
  rename LexOk _ _ => Y
  rename News _ _ _ _ => N
  rename Fr _ _ _ _ => F
  rename_i deed hA1 tkA1 npA kA nA tA0 tA1 tA2 tdeed hrd hra hA2 fig hA3 lfig hA4 wd hB tkB npB kB nB tB0 tB1 tB2 twd hrw haw hC'
  have tne : ∀ p ∈ cols, p.1 ≠ fig := tail_ne lfig.2.2.2.2.2.2.2.2.2.2.2.2
  have f3 : fig ∉ [Z.ld, Z.F.l, Z.pb] := notin_core Y (Nat.lt_trans hr3 lfig.1)
  have hargs := args_range (hok d (List.Mem.head _))
  have hargl := args_len d
  let Inv2 : Nat → (Str → Option Value) → List (Addr × Obj) → Prop := fun q m nx => ∃ (done todo : List Int) (vals : List Value) (v : Str) (tv : Tok) (np k n0 : Nat) (t0 t1 t2 : Tok) (nf : Nat), q = todo.length ∧ nx = ((fig, lstO vals nf) :: (it, rit (i + 1) ds'.length) :: (row, lstO vsr nr) :: (core w.params Z [] np k n0 t0 t1 t2 ++ cols)) ∧
    Told ([(Str.ofString "lexer", Value.ref Z.lx), (Str.ofString "row", .ref row), (Str.ofString "odd", .bool odd), (Str.ofString "deed", .str deed tdeed), (Str.ofString "figures", .ref fig), (Str.ofString "word", .str v tv)] : List (Str × Value)) m ∧ IntsV vals done ∧ d.args = done ++ todo ∧ v.cps.toList = (todo.map digs ++ ds'.flatMap Deed.words).headD [] ∧ After Z.x.cps.toList k (todo.map digs ++ ds'.flatMap Deed.words)
  refine While_inv2 (n₀ := d.args.length) Inv2 F N
    ⟨[], d.args, [], wd, twd, _, _, _, _, _, _, _, rfl, rfl, told_cons rfl (told_cons rfl (told_cons rfl (told_cons rfl (told_cons rfl (told_cons rfl told_nil))))), trivial, rfl, hrw, haw⟩ ?turnW
  clear F N hrw haw
  rintro q m₁ nx h₁ tk₁ F₁ N₁ ⟨done, todo, vals, v, tv, np2, k2, n2, t20, t21, t22, nf, rfl, rfl, hm, hiv, hsp, hv, ha2⟩
  replace F₁ := Fr.named _ F₁ hm
  dsimp only [nm] at F₁
  dsimp only [core, List.cons_append, List.nil_append] at N₁
  have hvl := hiv.len
  have hspl := congrArg List.length hsp
  rw [List.length_append] at hspl
  cases todo with
  | cons x todo =>
    have hx := hargs x (mem_mid hsp)
    have ev : v = Str.ofString (toString x) := str_ext hv
    subst ev
    have hdg : Txt.isdigit (Str.ofString (toString x)) = true := digs_digit hx.1 rfl
    have ha3 : Reads Z.x.cps.toList k2 (todo.map digs ++ ds'.flatMap Deed.words) := ha2
    clear ha2
    k_steps
    rename News _ _ _ _ => N
    rename Fr _ _ _ _ => F
    rename_i hE tkE wd2 hE1 tkE1 npE kE nE tE0 tE1 tE2 tE hrE haE hE2
    rw [push_vals] at N
    exact while_next F N (n' := todo.length) (Nat.lt_succ_self _) ⟨done ++ [x], todo, vals ++ [.int x tk₁], _, _, _, _, _, _, _, _, _, rfl, rfl, told_cons rfl (told_cons rfl (told_cons rfl (told_cons rfl (told_cons rfl (told_cons rfl told_nil))))), hiv.snoc, by rw [hsp, List.append_assoc]; rfl, hrE, haE⟩
  | nil =>
    have hdg := rest_not hv
    rw [List.append_nil] at hsp
    subst hsp
    have ok := hok _ (List.Mem.head _)
    cases d with
    | lay x gr =>
      have ed : deed = Str.ofString "lay" := str_ext hrd
      subst ed
      cases gr with
      | false =>
        obtain ⟨ta, vals1, rfl, hiv1⟩ := IntsV.cons hiv
        obtain ⟨tb, vals2, rfl, hiv2⟩ := IntsV.cons hiv1
        obtain ⟨tc', vals3, rfl, hiv3⟩ := IntsV.cons hiv2
        have hiv4 := IntsV.nil hiv3
        subst hiv4
        have okx := ok.1
        cases odd with
        | false =>
          k_steps
          refine stop_out ?_
          rename News _ _ _ _ => N
          rename Fr _ _ _ _ => F
          rename_i vE hE tkE npE trE tD1 tD2 D hE1 lD vsE nE hE2 tkE2 hCE
          have hD : D ≠ it ∧ D ≠ row ∧ Z.pb < D := ⟨Nat.ne_of_gt lD.2.1, Nat.ne_of_gt lD.2.2.1, Nat.lt_trans hr3 lD.2.1⟩
          refine ⟨ds'.length, Nat.lt_succ_self _, ds', i + 1, _, _, rfl, rfl, _, _, _, _, _, _, _, _, _, _, _, _, _, _, run_end (d0 := _) hok hv ha2 (told_cons rfl (told_cons rfl (told_cons rfl told_nil))) F N sub_lay hCE (ord_layR hsorted) (List.forall_mem_cons.mpr ⟨hD, hcols⟩) hr1 hr2 hr3 (by rw [layR_len]; exact hlen2) hgl⟩
        | true =>
          k_steps
          refine stop_out ?_
          rename News _ _ _ _ => N
          rename Fr _ _ _ _ => F
          rename_i vE hE tkE npE trE tD1 tD2 D hE1 lD vsE nE hE2 tkE2 hCE
          have hD : D ≠ it ∧ D ≠ row ∧ Z.pb < D := ⟨Nat.ne_of_gt lD.2.1, Nat.ne_of_gt lD.2.2.1, Nat.lt_trans hr3 lD.2.1⟩
          refine ⟨ds'.length, Nat.lt_succ_self _, ds', i + 1, _, _, rfl, rfl, _, _, _, _, _, _, _, _, _, _, _, _, _, _, run_end (d0 := _) hok hv ha2 (told_cons rfl (told_cons rfl (told_cons rfl told_nil))) F N sub_lay hCE (ord_layL hsorted) (List.forall_mem_cons.mpr ⟨hD, hcols⟩) hr1 hr2 hr3 (by rw [layL_len]; exact hlen2) hgl⟩
      | true =>
        obtain ⟨ta, vals1, rfl, hiv1⟩ := IntsV.cons hiv
        have hiv4 := IntsV.nil hiv1
        subst hiv4
        have okx := ok.1
        obtain ⟨e01, e12⟩ := ok.2 rfl
        cases odd with
        | false =>
          k_steps
          refine stop_out ?_
          rename News _ _ _ _ => N
          rename Fr _ _ _ _ => F
          rename_i vE hE tkE npE trE tD1 tD2 D hE1 lD vsE nE hE2 tkE2 hCE
          rw [← e12, ← e01] at hCE
          have hD : D ≠ it ∧ D ≠ row ∧ Z.pb < D := ⟨Nat.ne_of_gt lD.2.1, Nat.ne_of_gt lD.2.2.1, Nat.lt_trans hr3 lD.2.1⟩
          refine ⟨ds'.length, Nat.lt_succ_self _, ds', i + 1, _, _, rfl, rfl, _, _, _, _, _, _, _, _, _, _, _, _, _, _, run_end (d0 := _) hok hv ha2 (told_cons rfl (told_cons rfl (told_cons rfl told_nil))) F N sub_lay hCE (ord_layR hsorted) (List.forall_mem_cons.mpr ⟨hD, hcols⟩) hr1 hr2 hr3 (by rw [layR_len]; exact hlen2) hgl⟩
        | true =>
          k_steps
          refine stop_out ?_
          rename News _ _ _ _ => N
          rename Fr _ _ _ _ => F
          rename_i vE hE tkE npE trE tD1 tD2 D hE1 lD vsE nE hE2 tkE2 hCE
          rw [← e12, ← e01] at hCE
          have hD : D ≠ it ∧ D ≠ row ∧ Z.pb < D := ⟨Nat.ne_of_gt lD.2.1, Nat.ne_of_gt lD.2.2.1, Nat.lt_trans hr3 lD.2.1⟩
          refine ⟨ds'.length, Nat.lt_succ_self _, ds', i + 1, _, _, rfl, rfl, _, _, _, _, _, _, _, _, _, _, _, _, _, _, run_end (d0 := _) hok hv ha2 (told_cons rfl (told_cons rfl (told_cons rfl told_nil))) F N sub_lay hCE (ord_layL hsorted) (List.forall_mem_cons.mpr ⟨hD, hcols⟩) hr1 hr2 hr3 (by rw [layL_len]; exact hlen2) hgl⟩
    | neg =>
      have ed : deed = Str.ofString "negative" := str_ext hrd
      subst ed
      have hiv4 := IntsV.nil hiv
      subst hiv4
      have hvx := hC.length
      k_steps
      refine stop_out ?_
      rename News _ _ _ _ => N
      rename Fr _ _ _ _ => F
      rename_i vE hE tkE npE trE qq1 qq2 qq3 qq4 qq5 qq6
      refine assign_comp3 (fun R => OverJ ((R, W.listOf vsr.reverse.toArray 0) :: (fig, lstO [] nf) :: (it, rit (i + 1) ds'.length) :: (row, lstO vsr nr) :: (core w.params Z [.str v trE] npE k2 n2 t20 t21 t22 ++ cols)) xs.reverse R) F rfl (by with_unfolding_all rfl) (by with_unfolding_all rfl) (by decide) (by rfl) (by decide) (by rfl) (by rfl) (by rfl) (by decide) (by decide) (by decide) (by rfl) (by rfl) ?_
      k_steps
      refine stop_out ?_
      rename News _ _ _ _ => N2
      rename Fr _ _ _ _ => F2
      rename_i R hR1 lR
      have hvr := ColsOf.reverse hC
      have hrl : vsr.reverse.toArray.size = xs.reverse.length := by rw [List.size_toArray, List.length_reverse, List.length_reverse, hvx]
      refine ⟨R, vsr.reverse.toArray, _, rfl, rfl, F2, N2, .inr ⟨_, .head _, rfl, _, rfl⟩, small_sz (by rw [List.length_reverse]; omega), ⟨Nat.zero_le _, [], rfl, List.forall_mem_nil _, trivial⟩, ?turn3, ?fin3⟩
      case turn3 =>
        clear N2 F2 N F
        rintro i' v' ys nw hv' ⟨hi, cs, rfl, hlow, hcs⟩
        obtain ⟨y, t, t1', t2', t3', nt, hy, oky, rfl, hmt⟩ := ColsOf.get hvr i' v' (by rw [← hv']; simp)
        refine ⟨t, _, _, _, _, nt, rfl, pair_in hmt, rfl, rfl, ?_⟩
        intro I oI C oC D m₂ h tk E' hC₂ hx₂ hy₂ hz₂ F N off ne
        k_steps
        rename News _ _ _ _ => N
        rename Fr _ _ _ _ => F
        rename_i T hT lT
        refine LCg.CompEnd.intro F N ((T, _) :: (cs ++ _)) sub_rot ⟨⟨Nat.ne_of_gt lT.1, Nat.ne_of_gt lT.2.1, Nat.ne_of_gt lT.2.2.1⟩, off⟩ (.inr ⟨_, .tail _ (List.mem_append_right _ (.head _)), rfl, _, rfl⟩) ⟨lt_of_get hy, (T, _) :: cs, rfl, List.forall_mem_cons.mpr ⟨allLt_at lT.2.2.2 _ (List.mem_append_right _ (.head _)), hlow⟩, over_snoc hcs hy oky ⟨_, _, _, _, rfl⟩⟩
      case fin3 =>
        clear N2 F2 N F
        rintro ys nw D h tk ⟨hi, cs, rfl, hlow, hcs⟩ hD F N off
        k_steps
        refine stop_out ?_
        rename News _ _ _ _ => N
        rename Fr _ _ _ _ => F
        have hDl := Off1.mem off
        have e1 : xs.reverse.take vsr.reverse.toArray.size = xs.reverse := by rw [hrl]; exact List.take_length
        rw [e1] at hcs
        have hRD : R < D := hD _ (.head _)
        have hiR : it < R := lR.2.1
        have hpR : Z.pb < R := Nat.lt_trans hr3 hiR
        refine ⟨ds'.length, Nat.lt_succ_self _, ds', i + 1, _, _, rfl, rfl, _, _, _, _, _, _, _, _, _, _, _, _, cs ++ cols, _, run_end (d0 := _) hok hv ha2 (told_cons rfl (told_cons rfl (told_cons rfl told_nil))) F N sub_neg (ColsOf.mono (fun p hp => List.mem_append_left _ hp) hcs) (ord_over hsorted) (fun p hp => ?_) (Nat.ne_of_gt (Nat.lt_trans hiR hRD)) (Nat.lt_trans hpR hRD) hr3 (by rw [List.length_map, List.length_reverse]; omega) hgl⟩
        rcases List.mem_append.mp hp with hp | hp
        · have hl := hlow p hp
          exact ⟨Nat.ne_of_gt (Nat.lt_trans hiR hl), hDl p (List.mem_append_left _ hp), Nat.lt_trans hpR hl⟩
        · exact ⟨(hcols p hp).1, hDl p (pair_in hp), (hcols p hp).2.2⟩
    | drop lo hi =>
      have ed : deed = Str.ofString "drop" := str_ext hrd
      subst ed
      obtain ⟨ta, vals1, rfl, hiv1⟩ := IntsV.cons hiv
      obtain ⟨tb, vals2, rfl, hiv2⟩ := IntsV.cons hiv1
      have hiv4 := IntsV.nil hiv2
      subst hiv4
      obtain ⟨ok1, ok2, ok3, ok4⟩ := ok
      have dv1 := div_big (n := lo) ⟨ok1, by omega⟩
      have dv2 := div_big (n := hi) ⟨by omega, ok4⟩
      have hvx := hC.length
      k_steps
      refine stop_out ?_
      rename News _ _ _ _ => N
      rename Fr _ _ _ _ => F
      rename_i r1 t1r h7 tk1 a1 a2 a3 a4 h6 tkx tx r2 t2r h5 tk2 b1 b2 b3 b4 h4 tkz D1 h3 lD1 D2 h2 lD2 I h1 nI lI h0
      refine ⟨ds'.length, Nat.lt_succ_self _, ds', i + 1, _, _, rfl, rfl, _, _, _, _, _, _, _, _, _, _, _, _, _, _, run_end (d0 := _) hok hv ha2 (told_cons rfl (told_cons rfl (told_cons rfl told_nil))) F N sub_drop (cut_cols hC hsorted (Int.le_of_lt ok3) a1 a2 b1 b2 a3 a4 b3 b4) (ord_out hsorted) (cols_far hcols lI.2.2.2.2.2.2.2.2.2.2.2.2.2.2.2) (Nat.ne_of_gt lI.2.2.2.1) (Nat.lt_trans hr3 lI.2.2.2.1) hr3 (Nat.le_trans (Nat.add_le_add_right (Nat.le_trans (List.length_filter_le _ _) (Nat.le_succ _)) _) hlen2) hgl⟩
end Mine
end
section
open PySem PySem.W PyProof.Rows PySem.Spec PySem.Calls
set_option Elab.async false
set_option linter.unusedVariables false
namespace Mine
/-- a strict order on places -/
structure Strict (lt : Nat → Nat → Bool) : Prop where
  irr : ∀ i, lt i i = false
  tr : ∀ {i j k}, lt i j = true → lt j k = true → lt i k = true
  tot : ∀ {i j}, i ≠ j → lt i j = false → lt j i = true
/-- what a sort's questions lead to, where each is answered by lt, asked of two places below n -/
noncomputable def kasOk {α : Type} (lt : Nat → Nat → Bool) (n : Nat) (Q : α → Prop) : KasT α → Prop
  | .ret a => Q a
  | .ask i j k => i < n ∧ j < n ∧ i ≠ j ∧ kasOk lt n Q (k (lt i j))
theorem kasOk_mono {α : Type} {lt : Nat → Nat → Bool} {n : Nat} {Q Q' : α → Prop} (hq : ∀ a, Q a → Q' a) : ∀ t : KasT α, kasOk lt n Q t → kasOk lt n Q' t
  | .ret a, h => hq a h
  | .ask i j k, h => ⟨h.1, h.2.1, h.2.2.1, kasOk_mono hq _ h.2.2.2⟩
theorem kasOk_bind {α β : Type} {lt : Nat → Nat → Bool} {n : Nat} {Q : β → Prop} {f : α → KasT β} : ∀ t : KasT α, kasOk lt n (fun a => kasOk lt n Q (f a)) t → kasOk lt n Q (t.bind f)
  | .ret a, h => h
  | .ask i j k, h => ⟨h.1, h.2.1, h.2.2.1, kasOk_bind _ h.2.2.2⟩
theorem kasOk_wp {α : Type} {lt : Nat → Nat → Bool} {n : Nat} {cmp : Nat → Nat → (Bool → Shared → Prop) → Shared → Prop} {P : α → Shared → Prop} {s : Shared}
    (hc : ∀ i j (C : Bool → Shared → Prop), i < n → j < n → i ≠ j → C (lt i j) s → cmp i j C s) : ∀ t : KasT α, kasOk lt n (fun a => P a s) t → t.kasWp cmp P s
  | .ret a, h => h
  | .ask i j k, h => hc i j _ h.1 h.2.1 h.2.2.1 (kasOk_wp hc _ h.2.2.2)
/-- the numbers below n in some order -/
def Pm (n : Nat) (p : Array Nat) : Prop := p.toList.Perm (List.range n)
theorem Pm.size {n : Nat} {p : Array Nat} (h : Pm n p) : p.size = n := by rw [← Array.length_toList, List.Perm.length_eq h, List.length_range]
theorem Pm.lt {n : Nat} {p : Array Nat} (h : Pm n p) {i : Nat} (hi : i < n) : p.getD i 0 < n := by
  have hi' : i < p.size := h.size ▸ hi
  have e : p.getD i 0 = p[i] := by simp [Array.getD, hi']
  rw [e]
  exact List.mem_range.mp ((List.Perm.mem_iff h).mp (Array.getElem_mem_toList hi'))
theorem Pm.ne {n : Nat} {p : Array Nat} (h : Pm n p) {i j : Nat} (hi : i < n) (hj : j < n) (hij : i ≠ j) : p.getD i 0 ≠ p.getD j 0 := by
  have hi' : i < p.toList.length := by rw [Array.length_toList, h.size]; exact hi
  have hj' : j < p.toList.length := by rw [Array.length_toList, h.size]; exact hj
  have nd : p.toList.Nodup := (List.Perm.nodup_iff h).mpr List.nodup_range
  have e1 : p.getD i 0 = p.toList[i] := by simp [Array.getD, h.size, hi]
  have e2 : p.getD j 0 = p.toList[j] := by simp [Array.getD, h.size, hj]
  rw [e1, e2]
  intro e
  rcases Nat.lt_or_gt_of_ne hij with h | h
  · exact List.pairwise_iff_getElem.mp nd i j hi' hj' h e
  · exact List.pairwise_iff_getElem.mp nd j i hj' hi' h e.symm
theorem Pm.of {n : Nat} {p q : Array Nat} (h : Pm n p) (hq : q.Perm p) : Pm n q := List.Perm.trans hq.toList h
theorem getD_of {p q : Array Nat} {i j : Nat} (h : p[i]? = q[j]?) : p.getD i 0 = q.getD j 0 := by
  have : ∀ (a : Array Nat) (k : Nat), a.getD k 0 = (a[k]?).getD 0 := fun a k => by simp
  rw [this, this, h]
def SortTo (lt : Nat → Nat → Bool) (p : Array Nat) (k : Nat) : Prop := ∀ i j, i < j → j < k → lt (p.getD i 0) (p.getD j 0) = true
def DescTo (lt : Nat → Nat → Bool) (p : Array Nat) (k : Nat) : Prop := ∀ i j, i < j → j < k → lt (p.getD j 0) (p.getD i 0) = true
theorem grow {R : Nat → Nat → Prop} (tr : ∀ {i j k}, R i j → R j k → R i k) {m : Nat} (hs : ∀ i j, i < j → j < m → R i j) (h : R (m - 1) m) : ∀ i j, i < j → j < m + 1 → R i j := fun i j hij hj => by
  rcases Nat.lt_or_eq_of_le (Nat.le_of_lt_succ hj) with h1 | h1
  · exact hs i j hij h1
  · subst h1
    rcases Nat.lt_or_eq_of_le (Nat.le_pred_of_lt hij) with h2 | h2
    · exact tr (hs i (j - 1) h2 (Nat.sub_lt (Nat.lt_of_le_of_lt (Nat.zero_le _) hij) Nat.one_pos)) h
    · rw [show i = j - 1 from h2]; exact h
section
variable {lt : Nat → Nat → Bool} {n : Nat} (O : Strict lt)
include O
theorem asc_ok {p : Array Nat} (P : Pm n p) : ∀ (f m : Nat), 1 ≤ m → m + f ≤ n → SortTo lt p m → kasOk lt n (fun r => m ≤ r ∧ r ≤ m + f ∧ SortTo lt p r ∧ (r < m + f → lt (p.getD r 0) (p.getD (r - 1) 0) = true)) (kas_asc p f m)
  | 0, m, h1, h2, hs => ⟨Nat.le_refl _, Nat.le_refl _, hs, fun h => absurd h (Nat.lt_irrefl _)⟩
  | f + 1, m, h1, h2, hs => by
    have hm : m < n := Nat.lt_of_lt_of_le (Nat.lt_add_of_pos_right (Nat.succ_pos f)) h2
    have hp : m - 1 < m := Nat.sub_lt h1 Nat.one_pos
    have hpn : m - 1 < n := Nat.lt_trans hp hm
    have hne := P.ne hm hpn (Nat.ne_of_gt hp)
    refine ⟨P.lt hm, P.lt hpn, hne, ?_⟩
    cases hc : lt (p.getD m 0) (p.getD (m - 1) 0) with
    | true => exact ⟨Nat.le_refl _, Nat.le_add_right _ _, hs, fun _ => hc⟩
    | false =>
      have e : m + 1 + f = m + (f + 1) := Nat.succ_add_eq_add_succ m f
      refine kasOk_mono (fun r h => ⟨Nat.le_of_succ_le h.1, Nat.le_trans h.2.1 (Nat.le_of_eq e), h.2.2.1, fun q => h.2.2.2 (Nat.lt_of_lt_of_eq q e.symm)⟩) _
        (asc_ok P f (m + 1) (Nat.le_succ_of_le h1) (Nat.le_trans (Nat.le_of_eq e) h2) (grow (R := fun i j => lt (p.getD i 0) (p.getD j 0) = true) O.tr hs (O.tot hne hc)))
theorem desc_ok {p : Array Nat} (P : Pm n p) : ∀ (f m : Nat), 1 ≤ m → m + f ≤ n → DescTo lt p m → kasOk lt n (fun r => r.1 = p ∧ m ≤ r.2.1 ∧ r.2.1 ≤ n ∧ DescTo lt p r.2.1 ∧ r.2.2 = 0) (kas_desc f p m 0)
  | 0, m, h1, h2, hs => ⟨rfl, Nat.le_refl _, h2, hs, rfl⟩
  | f + 1, m, h1, h2, hs => by
    have hm : m < n := Nat.lt_of_lt_of_le (Nat.lt_add_of_pos_right (Nat.succ_pos f)) h2
    have hp : m - 1 < m := Nat.sub_lt h1 Nat.one_pos
    have hpn : m - 1 < n := Nat.lt_trans hp hm
    have hne := P.ne hm hpn (Nat.ne_of_gt hp)
    refine ⟨P.lt hm, P.lt hpn, hne, ?_⟩
    cases hc : lt (p.getD m 0) (p.getD (m - 1) 0) with
    | true =>
      have e : m + 1 + f = m + (f + 1) := Nat.succ_add_eq_add_succ m f
      exact kasOk_mono (fun r h => ⟨h.1, Nat.le_of_succ_le h.2.1, h.2.2⟩) _ (desc_ok P f (m + 1) (Nat.le_succ_of_le h1) (Nat.le_trans (Nat.le_of_eq e) h2)
        (grow (R := fun i j => lt (p.getD j 0) (p.getD i 0) = true) (fun a b => O.tr b a) hs hc))
    | false =>
      refine ⟨P.lt hpn, P.lt hm, hne.symm, ?_⟩
      rw [O.tot hne hc]
      exact ⟨rfl, Nat.le_refl _, Nat.le_of_lt hm, hs, rfl⟩
omit O in
theorem rev_sorted {p : Array Nat} (P : Pm n p) {m : Nat} (hm : m ≤ n) (hd : DescTo lt p m) : SortTo lt (kas_rev p 0 m) m := by
  intro i j hij hj
  have e : ∀ k, k < m → (kas_rev p 0 m).getD k 0 = p.getD (0 + m - 1 - k) 0 := fun k hk => getD_of (by
    unfold kas_rev; rw [getElem?_mirror_all (by rw [P.size]; exact hm), if_pos ⟨Nat.zero_le _, hk⟩])
  rw [e i (Nat.lt_trans hij hj), e j hj, Nat.zero_add]
  exact hd _ _ (Nat.sub_lt_sub_left (Nat.lt_of_lt_of_le hij (Nat.le_pred_of_lt hj)) hij) (Nat.lt_of_le_of_lt (Nat.sub_le _ _) (Nat.sub_lt (Nat.lt_of_le_of_lt (Nat.zero_le _) hj) Nat.one_pos))
theorem count_ok {p : Array Nat} (P : Pm n p) (hn : 1 ≤ n) : kasOk lt n (fun r => 1 ≤ r.1 ∧ r.1 ≤ n ∧ Pm n r.2 ∧ SortTo lt r.2 r.1) (kas_count n p) := by
  have en : 1 + (n - 1) = n := Nat.add_sub_cancel' hn
  refine kasOk_bind _ (kasOk_mono (fun r h => ?_) _ (asc_ok O P (n - 1) 1 (Nat.le_refl _) (Nat.le_of_eq en) fun i j h1 h2 => absurd (Nat.lt_of_le_of_lt (Nat.zero_le _) h1) (Nat.not_lt_of_le (Nat.le_of_lt_succ h2))))
  obtain ⟨h1, h2, hs, hb⟩ := h
  rw [en] at h2 hb
  rcases Nat.lt_or_eq_of_le h2 with e | e
  · rw [if_neg (by simpa using Nat.ne_of_lt e)]
    rcases Nat.lt_or_eq_of_le h1 with h3 | h3
    · have hp : r - 1 < r := Nat.sub_lt h1 Nat.one_pos
      have h0 : 0 < r - 1 := Nat.sub_pos_of_lt h3
      rw [if_pos h3]
      refine ⟨P.lt hn, P.lt (Nat.lt_trans hp e), P.ne hn (Nat.lt_trans hp e) (Nat.ne_of_lt h0), ?_⟩
      rw [hs 0 (r - 1) h0 hp]
      exact ⟨h1, h2, P, hs⟩
    · subst h3
      rw [if_neg (Nat.lt_irrefl _)]
      have hlt := hb e
      refine kasOk_bind _ (kasOk_mono (fun q h => ?_) _ (desc_ok O P (n - (1 + 1)) (1 + 1) (Nat.le_succ _) (Nat.le_of_eq (Nat.add_sub_cancel' e)) fun i j hij hj => ?_))
      · obtain ⟨q1, q2, q3, q4, q5⟩ := h
        rw [q5, if_neg (Nat.lt_irrefl _), q1]
        have P' : Pm n (kas_rev p 0 q.2.1) := P.of (mirror_perm _ _ _ _)
        have q6 : 1 ≤ q.2.1 := Nat.le_trans (Nat.le_succ _) q2
        have q7 : q.2.1 + (n - q.2.1) = n := Nat.add_sub_cancel' q3
        refine kasOk_bind _ (kasOk_mono (fun t h => ?_) _ (asc_ok O P' (n - q.2.1) q.2.1 q6 (Nat.le_of_eq q7) (rev_sorted P q3 q4)))
        exact ⟨Nat.le_trans q6 h.1, Nat.le_trans h.2.1 (Nat.le_of_eq q7), P', h.2.2.1⟩
      · have hj : j ≤ 1 := Nat.le_of_lt_succ hj
        have hi : i = 0 := Nat.le_zero.mp (Nat.le_of_lt_succ (Nat.lt_of_lt_of_le hij hj))
        subst hi
        have hj : j = 1 := Nat.le_antisymm hj hij
        subst hj
        exact hlt
  · subst e
    have : (r == r) = true := beq_self_eq_true r
    rw [if_pos this]
    exact ⟨hn, Nat.le_refl _, P, hs⟩
omit O in
theorem mid_in {l r : Nat} (h : l < r) : l ≤ (l + r) / 2 ∧ (l + r) / 2 < r := by omega
theorem place_ok {p : Array Nat} (P : Pm n p) {k : Nat} (hk : k < n) (hs : SortTo lt p k) : ∀ (f l r : Nat), r - l ≤ f → l ≤ r → r ≤ k → (∀ i, i < l → lt (p.getD i 0) (p.getD k 0) = true) → (∀ i, r ≤ i → i < k → lt (p.getD k 0) (p.getD i 0) = true) →
    kasOk lt n (fun q => q ≤ k ∧ (∀ i, i < q → lt (p.getD i 0) (p.getD k 0) = true) ∧ ∀ i, q ≤ i → i < k → lt (p.getD k 0) (p.getD i 0) = true) (kas_place p k f l r)
  | 0, l, r, h1, h2, h3, hl, hr => by
    have : l = r := Nat.le_antisymm h2 (Nat.le_of_sub_eq_zero (Nat.le_zero.mp h1))
    subst this
    exact ⟨h3, hl, hr⟩
  | f + 1, l, r, h1, h2, h3, hl, hr => by
    unfold kas_place
    by_cases hlr : l ≥ r
    · have : l = r := Nat.le_antisymm h2 hlr
      subst this
      rw [if_pos hlr]
      exact ⟨h3, hl, hr⟩
    · rw [if_neg hlr]
      obtain ⟨m1, m2⟩ := mid_in (Nat.lt_of_not_le hlr)
      generalize (l + r) / 2 = m at m1 m2
      have m3 : m < k := Nat.lt_of_lt_of_le m2 h3
      have m4 : m < n := Nat.lt_trans m3 hk
      have hne := P.ne hk m4 (Nat.ne_of_gt m3)
      refine ⟨P.lt hk, P.lt m4, hne, ?_⟩
      cases hc : lt (p.getD k 0) (p.getD m 0) with
      | true =>
        refine place_ok P hk hs f l m (Nat.le_of_lt_succ (Nat.lt_of_lt_of_le (Nat.sub_lt_sub_right m1 m2) h1)) m1 (Nat.le_of_lt m3) hl fun i h4 h5 => ?_
        rcases Nat.lt_or_eq_of_le h4 with e | e
        · exact O.tr hc (hs _ _ e h5)
        · rw [← e]; exact hc
      | false =>
        have hlt := O.tot hne hc
        refine place_ok P hk hs f (m + 1) r (Nat.le_of_lt_succ (Nat.lt_of_lt_of_le (Nat.sub_lt_sub_left (Nat.lt_of_le_of_lt m1 m2) (Nat.lt_succ_of_le m1)) h1)) m2 h3 (fun i h4 => ?_) hr
        rcases Nat.lt_or_eq_of_le (Nat.le_of_lt_succ h4) with e | e
        · exact O.tr (hs _ _ e m3) hlt
        · rw [e]; exact hlt
theorem bin_ok : ∀ (f k : Nat) (p : Array Nat), Pm n p → k + f = n → SortTo lt p k → kasOk lt n (fun q => Pm n q ∧ SortTo lt q n) (kas_bin f p k)
  | 0, k, p, P, h, hs => by
    have : k = n := h
    subst this
    exact ⟨P, hs⟩
  | f + 1, k, p, P, h, hs => by
    have hk : k < n := Nat.lt_of_lt_of_le (Nat.lt_add_of_pos_right (Nat.succ_pos f)) (Nat.le_of_eq h)
    refine kasOk_bind _ (kasOk_mono (fun l hl => ?_) _ (place_ok O P hk hs k 0 k (Nat.sub_le _ _) (Nat.zero_le _) (Nat.le_refl _) (fun i hi => absurd hi (Nat.not_lt_zero _)) (fun i h1 h2 => absurd h2 (Nat.not_lt_of_le h1))))
    obtain ⟨hlk, ha, hb⟩ := hl
    refine bin_ok f (k + 1) _ (P.of (bubble_perm _ _ _)) ((Nat.succ_add_eq_add_succ k f).trans h) ?_
    have e : ∀ i, (bubble p k (k - l)).getD i 0 = if i = l then p.getD k 0 else if l < i ∧ i ≤ k then p.getD (i - 1) 0 else p.getD i 0 := fun i => by
      have g := getElem?_bubble (xs := p) (src := k) (by rw [P.size]; exact hk) (k - l) (Nat.sub_le _ _) i
      rw [Nat.sub_sub_self hlk] at g
      by_cases h1 : i = l
      · rw [if_pos h1] at g ⊢; exact getD_of g
      · rw [if_neg h1] at g ⊢
        by_cases h2 : l < i ∧ i ≤ k
        · rw [if_pos h2] at g ⊢; exact getD_of g
        · rw [if_neg h2] at g ⊢; exact getD_of g
    intro i j hij hj
    have hjk : j ≤ k := Nat.le_of_lt_succ hj
    have pj : j - 1 < j := Nat.sub_lt (Nat.lt_of_le_of_lt (Nat.zero_le _) hij) Nat.one_pos
    rw [e i, e j]
    rcases Nat.lt_trichotomy j l with h2 | h2 | h2
    · rw [if_neg (Nat.ne_of_lt (Nat.lt_trans hij h2)), if_neg fun q => Nat.lt_asymm q.1 (Nat.lt_trans hij h2), if_neg (Nat.ne_of_lt h2), if_neg fun q => Nat.lt_asymm q.1 h2]
      exact hs _ _ hij (Nat.lt_of_lt_of_le h2 hlk)
    · rw [h2] at hij
      rw [if_pos h2, if_neg (Nat.ne_of_lt hij), if_neg fun q => Nat.lt_asymm q.1 hij]
      exact ha _ hij
    · rw [if_neg (Nat.ne_of_gt h2), if_pos (show l < j ∧ j ≤ k from ⟨h2, hjk⟩)]
      have p1 : j - 1 < k := Nat.lt_of_lt_of_le pj hjk
      rcases Nat.lt_trichotomy i l with h1 | h1 | h1
      · rw [if_neg (Nat.ne_of_lt h1), if_neg fun q => Nat.lt_asymm q.1 h1]
        exact hs _ _ (Nat.lt_of_lt_of_le h1 (Nat.le_pred_of_lt h2)) p1
      · rw [if_pos h1]
        exact hb _ (Nat.le_pred_of_lt h2) p1
      · rw [if_neg (Nat.ne_of_gt h1), if_pos (show l < i ∧ i ≤ k from ⟨h1, Nat.le_trans (Nat.le_of_lt hij) hjk⟩)]
        exact hs _ _ (Nat.sub_lt_sub_right (Nat.lt_of_le_of_lt (Nat.zero_le _) h1) hij) p1
theorem sort_ok (hn : 1 ≤ n) : kasOk lt n (fun q => Pm n q ∧ SortTo lt q n) (kas_sort n) := by
  refine kasOk_bind _ (kasOk_mono (fun r h => ?_) _ (count_ok O (p := List.toArray (List.range n)) (List.Perm.refl _) hn))
  obtain ⟨h1, h2, P, hs⟩ := h
  rcases Nat.lt_or_eq_of_le h2 with e | e
  · rw [if_pos e, Nat.max_eq_left h1]
    exact bin_ok O _ _ _ P (Nat.add_sub_cancel' h2) hs
  · rw [if_neg (Nat.not_lt_of_le (Nat.le_of_eq e.symm))]
    rw [e] at hs
    exact ⟨P, hs⟩
end
end Mine
end
section
open PySem PySem.W PyProof.Rows PySem.Spec PySem.Calls
set_option linter.unusedVariables false
namespace Mine
/-- a list iterator's object at place i of l -/
def IterO (o : Obj) (l : Addr) (i : Nat) : Prop := o.cls = .type "list_iterator" ∧ o.data = .fields #[.ref l, .int i 0]
section
variable {prog : Program} {w : World} {A : Around} {E : Value → Shared → Prop} {s : Shared} {g : Heap} {L l D I : Addr} {m : Str → Option Value} {news : List (Addr × Obj)} {vs ys : List Value} {n i : Nat}
theorem addD {its : Array Value} {Q : Value → Shared → Prop} (F : Fr g L s.heap m) (N : News g L s.heap news) (ha : (l, W.listOf its n) ∈ news) (hb : s.heap.IsList D ys.toArray) (hz : its.size + ys.length ≤ 1000)
    (h : ∀ I h' n', Fr g L h' m → News g L h' ((I, lstO (its.toList ++ ys) n') :: news) → (∀ p ∈ news, p.1 < I) → Q (.ref I) { s with heap := h' }) : wpAny (model prog w) A (binaryOp .Add (.ref l) (.ref D)) Q E s := by
  have ha' : s.heap.IsList l its.toList.toArray := ⟨_, (N _ ha).1, rfl, n, by rw [Array.toArray_toList]⟩
  exact add_lists F N ha' hb (fun h' F' N' => h _ h' _ F' N' fun q hq => Heap.lt_size (N q hq).1) (Nat.le_trans (by rw [Array.length_toList]; exact hz) (by decide))
theorem listIter_K {Q : Value → Shared → Prop} (F : Fr g L s.heap m) (N : News g L s.heap news) (hl : s.heap.get? l = some (lstO vs n))
    (h : ∀ I oI h', IterO oI l 0 → Fr g L h' m → News g L h' ((I, oI) :: news) → (∀ p ∈ news, p.1 < I) → Q (.ref I) { s with heap := h' }) : wpAny (model prog w) A (pyIter (.ref l)) Q E s :=
  wpAny_pyIter_list ⟨_, hl, rfl, n, rfl⟩ (h _ _ _ ⟨rfl, rfl⟩ (F.push _) (News.push F N _ rfl) fun q hq => Heap.lt_size (N q hq).1)
theorem listNext_K {oI : Obj} {Q : Option Value → Shared → Prop} (hh : A.handled = none) (F : Fr g L s.heap m) (N : News g L s.heap ((I, oI) :: news)) (hI : ∀ p ∈ news, p.1 ≠ I) (ho : IterO oI l i) (hl : (l, lstO vs n) ∈ news)
    (hgo : ∀ v, vs[i]? = some v → ∀ oI' h', IterO oI' l (i + 1) → Fr g L h' m → News g L h' ((I, oI') :: news) → Q (some v) { s with heap := h' })
    (hend : vs.length ≤ i → ∀ h', Fr g L h' m → News g L h' news → Q none { s with heap := h' }) : wpAny (model prog w) A (pyNext (.ref I)) Q E s := by
  have nI := N _ (List.Mem.head _)
  have hit : s.heap.IsListIter I l i := ⟨oI, nI.1, ho.1, ho.2⟩
  have hL : s.heap.IsList l vs.toArray := ⟨_, (N _ (.tail _ hl)).1, rfl, n, rfl⟩
  cases hv : vs[i]? with
  | some v =>
    refine wpAny_pyNext_list_item hit hL (by simpa using hv) fun h' it' sb => ?_
    obtain ⟨o', e', r1, r2⟩ := it'
    refine hgo v hv o' h' ⟨r1, r2⟩ (fr_ext F sb.extBut nI.2) ?_
    intro p hp
    rcases List.mem_cons.mp hp with rfl | hp
    · exact ⟨e', nI.2⟩
    · exact ⟨sb.extBut _ _ (hI p hp) (N p (.tail _ hp)).1, (N p (.tail _ hp)).2⟩
  | none =>
    refine wpAny_pyNext_list_end hh hit hL (by simpa using hv) fun h' k => ?_
    exact hend (List.getElem?_eq_none_iff.mp hv) h' (fr_ext F k nI.2) fun p hp => ⟨k _ _ (hI p hp) (N p (.tail _ hp)).1, (N p (.tail _ hp)).2⟩
end
theorem ints_of : ∀ {vs : List Value} {ns : List Int}, IntsAre vs ns → IntsV vs ns
  | _, _, .nil => trivial
  | _, _, .cons n t h => ⟨rfl, ints_of h⟩
theorem IntsV.get : ∀ {vs : List Value} {ns : List Int}, IntsV vs ns → ∀ (i : Nat) (v : Value), vs[i]? = some v → ∃ (n : Int) (t : Tok), ns[i]? = some n ∧ v = .int n t
  | [], [], _, _, _, hv => by simp at hv
  | .int a t :: vs, b :: ns, h, 0, v, hv => ⟨b, t, rfl, by rw [← h.1]; simpa using hv.symm⟩
  | .int a t :: vs, b :: ns, h, i + 1, v, hv => by
    have := IntsV.get h.2 i v (by simpa using hv)
    simpa using this
/-- a script's draws -/
noncomputable def drawOf (x : Int) : Int := ((x + 1) * 7654321).fmod 940032
noncomputable def drawsOf (ns : List Int) : List Int := [144660, 192672, 300112, 78337, 407856] ++ (ns.take 5).map drawOf
theorem draws_ok (ns : List Int) : (∀ d ∈ drawsOf ns, 0 ≤ d ∧ d < 940032) ∧ 5 ≤ (drawsOf ns).length ∧ (drawsOf ns).length ≤ 10 := by
  refine ⟨?_, ?_, ?_⟩
  · intro d hd
    rcases List.mem_append.mp hd with hd | hd
    · simp only [List.mem_cons, List.not_mem_nil, or_false] at hd
      rcases hd with rfl | rfl | rfl | rfl | rfl <;> decide
    · obtain ⟨x, _, rfl⟩ := List.mem_map.mp hd
      exact ⟨Int.fmod_nonneg_of_pos _ (by decide), Int.fmod_lt_of_pos _ (by decide)⟩
  · unfold drawsOf; rw [List.length_append]; exact Nat.le_add_right 5 _
  · unfold drawsOf; rw [List.length_append, List.length_map, List.length_take]; show 5 + min 5 ns.length ≤ 10; omega
theorem draws_ints {ys : List Value} {ns : List Int} {t1 t2 t3 t4 t5 : Tok} (h : CarriedAll ys (List.map (fun a => PyData.int (((a + 1) * 7654321).fmod 940032)) (List.filter (fun _ => true) (ns.take 5)))) :
    IntsV ([.int 144660 t1, .int 192672 t2, .int 300112 t3, .int 78337 t4, .int 407856 t5] ++ ys) (drawsOf ns) := by
  have e : List.filter (fun _ => true) (ns.take 5) = ns.take 5 := List.filter_eq_self.mpr fun _ _ => rfl
  rw [e] at h
  exact ⟨rfl, rfl, rfl, rfl, rfl, ints_of (CarriedAll.intsOf (f := drawOf) h)⟩
end Mine
end
section
open PySem PySem.W PyProof.Rows PySem.Spec PySem.Calls
set_option Elab.async false
namespace Mine
theorem fill_lawParts : hd.heap_1 = hd.heap_1 ∧ PySem.Challenge.rw_pg0177_01 = PySem.Challenge.rw_pg0177_01 := by k_fill; exact ⟨rfl, rfl⟩
theorem corner_get {i : Nat} {v : Value} {a b c : Tok} (h : ([.int 0 a, .int 64 b, .int 128 c] : List Value)[i]? = some v) : ∃ t, v = .int (64 * (i : Int)) t ∧ i < 3 := by
  match i, h with
  | 0, h => exact ⟨a, (Option.some.inj h).symm, by decide⟩
  | 1, h => exact ⟨b, (Option.some.inj h).symm, by decide⟩
  | 2, h => exact ⟨c, (Option.some.inj h).symm, by decide⟩
  | n + 3, h => cases h
set_option pp.maxSteps 400
set_option pp.deepTerms.threshold 6
set_option linter.unusedVariables false
set_option maxRecDepth 100000 in
set_option maxHeartbeats 8000000 in
theorem lawParts {p : Program} {loose : List Str} {mean : ExcName → Option Value} {mg mb : Str → Option Value} {w : World}
    {dp un : Nat} {fr : List Env} {gd : Option (List Code)} {s : Shared} {Q E : Value → Shared → Prop} {g : Heap}
    {sp : Addr} {x : Spot} {t1 t2 t3 : Tok} {n : Nat}
    (st : g.StaysIn s.heap) (X : (hd.heap_1 w.params).In g) (T : Top p loose mean mg mb g)
    (hdp : dp + 3 < recursionLimit) (hun : un + 30 < cLine)
    (ok : x.ok) (hc : s.heap.get? sp = some (tupO [.int x.h t1, .int x.l t2, .int x.s t3] n))
    (hret : ∀ q t h' tk' ta tb tc, But [] s.heap h' → s.heap.get? q = none → h'.get? q = some (tupO [.int x.p0 ta, .int x.p1 tb, .int x.p2 tc] t) → Q (.ref q) { s with heap := h', toks := tk' }) :
    wpAny (model PySem.Challenge.pw_pg0177_01 w) (arnd dp un fr gd) (call (.ref 137) [.ref sp] []) Q E s := by
  w_top off
  k_with_none
  k_with "storeName" => (k_here; (with_reducible first | refine tok_int ?_ | refine tok_int2 ?_ | refine tok_str ?_ | refine tok_float ?_); intro tk')
  k_with "execs cons" => k_fold
  k_with "exec For Name List cons nil" => (refine stop_here ?_)
  k_with "pyIter ref" => (refine stop_here ?_)
  k_with "Exists" => (refine stop_here ?_)
  refine' entered (args := ⟨[.ref sp], []⟩) (ob := []) ?k8 st X T ?kO ?k6 ?k7 ?k9 ?kB ?_ ?c2 ?c3 ?c4 ?c5
  case k8 => exact room0 hdp
  case kO => exact (fun _ q => nomatch q)
  case k6 => k_is
  case k7 => k_is
  case k9 => first | exact BindsTo.of_eq rfl | exact binds_K (X.keeps st) rfl (by k_is) rfl rfl rfl
  case kB => exact locs rfl
  case c2 => exact rfl
  case c3 => exact rfl
  case c4 => exact rfl
  case c5 => decide
  intro g' L' h' hz eL hS hO X' T' F' N'
  clear X T st
  try dsimp only
  show wpAny _ _ _ _ _ _
  k_fold
  have hc' : IsTup g' sp #[.int x.h t1, .int x.l t2, .int x.s t3] := ⟨_, hS _ _ (by simp) hc, rfl, n, rfl⟩
  obtain ⟨h1, h2, h3, h4, h5, h6⟩ := ok
  k_steps
  refine stop_out ?_
  refine wpAny_For ?_
  k_steps
  refine stop_out ?_
  rename News _ _ _ _ => N
  rename Fr _ _ _ _ => F
  refine listIter_K (vs := [.int 0 _, .int 64 _, .int 128 _]) F N (N _ (List.Mem.head _)).1 ?_
  clear F N
  intro it oI h1' hoI F N l1
  rename_i D hD1 lT tkz lst hD2 lD
  obtain ⟨ka, kb, kc, N⟩ : ∃ a b c, News g' L' _ [(it, oI), (lst, lstO [.int 0 a, .int 64 b, .int 128 c] 0), (D, lstO [] 0)] := ⟨_, _, _, N⟩
  let Inv1 : Nat → Shared → Prop := fun n' s' => ∃ (i : Nat) (h : Heap) (tk : Nat) (m : Str → Option Value) (oI : Obj) (vals : List Value) (nv : Nat), s' = { s with heap := h, toks := tk } ∧ i ≤ 3 ∧ n' = 3 - i ∧ IterO oI lst i ∧
    Told ([(Str.ofString "hue", .int x.h t1), (Str.ofString "light", .int x.l t2), (Str.ofString "share", .int x.s t3), (Str.ofString "parts", .ref D)] : List (Str × Value)) m ∧ Fr g' L' h m ∧
    News g' L' h [(it, oI), (lst, lstO [.int 0 ka, .int 64 kb, .int 128 kc] 0), (D, lstO vals nv)] ∧ nv = i ∧ IntsV vals ((List.range i).map fun j : Nat => partP x.h x.l x.s (64 * (j : Int)))
  refine codeAny_forLoop Inv1 ?turn 3 ⟨0, _, _, _, _, [], 0, rfl, Nat.zero_le _, rfl, hoI, told_cons rfl (told_cons rfl (told_cons rfl (told_cons rfl told_nil))), F, N, rfl, trivial⟩ (by intro _; rfl)
  clear F N
  rintro n' s' ⟨i, h, tk, m, oI', vals, nv, rfl, hi, rfl, hI, hm, F, N, rfl, hv⟩
  have nDi : D ≠ it := Nat.ne_of_lt (l1 (D, _) (.tail _ (.head _)))
  have nLi : lst ≠ it := Nat.ne_of_lt (l1 (lst, _) (.head _))
  have nDl : D ≠ lst := Nat.ne_of_lt lD
  replace nDi := neN nDi; replace nLi := neN nLi; replace nDl := neN nDl
  have hvl : vals.length = nv := by rw [hv.len, List.length_map, List.length_range]
  refine listNext_K (l := lst) rfl F N (List.forall_mem_cons.mpr ⟨nLi, List.forall_mem_cons.mpr ⟨nDi, List.forall_mem_nil _⟩⟩) hI (.head _) ?go ?stp
  case go =>
    intro v hvi oI2 h2 hI2 F N
    obtain ⟨tv, rfl, hlt⟩ := corner_get hvi
    replace F := Fr.named _ F hm
    dsimp only [nm] at F
    k_steps
    refine stop_out ?_
    rename News _ _ _ _ => N
    rename Fr _ _ _ _ => F
    rw [push_vals] at N
    exact ⟨3 - (nv + 1), Nat.sub_lt_sub_left hlt (Nat.lt_succ_self nv), nv + 1, _, _, _, _, vals ++ [.int _ _], nv + 1, rfl, hlt, rfl, hI2, told_cons rfl (told_cons rfl (told_cons rfl (told_cons rfl told_nil))), F, N, rfl, by rw [List.range_succ, List.map_append]; exact hv.snoc⟩
  case stp =>
    intro hle h2 F N
    have h3 : nv = 3 := Nat.le_antisymm hi hle
    subst h3
    obtain ⟨ta, v1, rfl, hv1⟩ := IntsV.cons hv
    obtain ⟨tb, v2, rfl, hv2⟩ := IntsV.cons hv1
    obtain ⟨tc, v3, rfl, hv3⟩ := IntsV.cons hv2
    obtain rfl := IntsV.nil hv3
    replace F := Fr.named _ F hm
    dsimp only [nm] at F
    k_steps
    rename News _ _ _ _ => N
    rename Fr _ _ _ _ => F
    exact hret _ _ _ _ _ _ _ (But.ofFr F hz hS) (notOld hS (N _ (List.Mem.head _)).2.2 (by simp)) (N _ (List.Mem.head _)).1
end Mine
end
section
open PySem PySem.W PyProof.Rows PySem.Spec PySem.Calls
set_option linter.unusedVariables false
namespace Mine
/-- what a draw says -/
noncomputable def spotOf (d : Int) : Spot := ⟨(d.fdiv 4).fmod 64, (d.fdiv 256).fmod 17, (d.fdiv 4352).fmod 9⟩
noncomputable def deedOf (d : Int) : Deed :=
  if d.fmod 4 = 1 then .neg
  else if d.fmod 4 = 2 then .drop (spotOf d).l ((spotOf d).l + 1 + (spotOf d).s.fmod 4)
  else .lay (spotOf d) (decide ((spotOf d).p0 = (spotOf d).p1 ∧ (spotOf d).p1 = (spotOf d).p2 ∧ (d.fdiv 39168).fmod 2 = 1))
theorem spot_ok (d : Int) : (spotOf d).ok :=
  ⟨Int.fmod_nonneg_of_pos _ (by decide), Int.fmod_lt_of_pos _ (by decide), Int.fmod_nonneg_of_pos _ (by decide), Int.lt_add_one_iff.mp (Int.fmod_lt_of_pos _ (by decide)), Int.fmod_nonneg_of_pos _ (by decide), Int.lt_add_one_iff.mp (Int.fmod_lt_of_pos _ (by decide))⟩
theorem deed_ok (d : Int) : (deedOf d).ok := by
  have ok := spot_ok d
  unfold deedOf
  split
  · trivial
  split
  · have h1 : 0 ≤ (spotOf d).s.fmod 4 := Int.fmod_nonneg_of_pos _ (by decide)
    have h2 : (spotOf d).s.fmod 4 < 4 := Int.fmod_lt_of_pos _ (by decide)
    obtain ⟨_, _, h3, h4, _, _⟩ := ok
    exact ⟨h3, h4, by omega, by omega⟩
  · exact ⟨ok, fun h => ⟨(of_decide_eq_true h).1, (of_decide_eq_true h).2.1⟩⟩
/-- a deed's words on the page -/
noncomputable def encAll : List (List Nat) → Int → List Nat
  | [], _ => []
  | w :: ws, e => encW w e ++ encAll ws (e + 1)
noncomputable def pageOf (ds : List Int) : List Nat := ds.flatMap fun d => encAll (deedOf d).words (d.fdiv 78336)
/-- what the law holds: the colours as they would lie had nothing been turned; are the negatives odd? -/
noncomputable def lgt (odd : Bool) (y : Spot) : Int := if odd then y.over.l else y.l
noncomputable def holdD : Deed → List Spot × Bool → List Spot × Bool
  | .neg, (xs, odd) => (xs, !odd)
  | .drop lo hi, (xs, odd) => (xs.filter (fun y => !(decide (lo ≤ lgt odd y) && decide (lgt odd y < hi))), odd)
  | .lay x _, (xs, odd) => (xs ++ [if odd then x.over else x], odd)
noncomputable def laidD : Deed → List Spot
  | .lay x _ => [x, x.over]
  | _ => []
noncomputable def heldOf (ds : List Int) : List Spot × Bool := ds.foldl (fun st d => holdD (deedOf d) st) ([], false)
noncomputable def laidOf (ds : List Int) : List Spot := ds.flatMap fun d => laidD (deedOf d)
theorem page_snoc (ds : List Int) (d : Int) : pageOf (ds ++ [d]) = pageOf ds ++ encAll (deedOf d).words (d.fdiv 78336) := by unfold pageOf; rw [List.flatMap_append]; simp
theorem held_snoc (ds : List Int) (d : Int) : heldOf (ds ++ [d]) = holdD (deedOf d) (heldOf ds) := by unfold heldOf; rw [List.foldl_append]; rfl
theorem laid_snoc (ds : List Int) (d : Int) : laidOf (ds ++ [d]) = laidOf ds ++ laidD (deedOf d) := by unfold laidOf; rw [List.flatMap_append]; simp
/-- the tuples of drawn colours in the ledger's tail -/
noncomputable def SpotsOf (cols : List (Addr × Obj)) : List Value → List Spot → Prop
  | [], [] => True
  | .ref a :: vs, x :: xs => x.ok ∧ (∃ t1 t2 t3 n, (a, tupO [.int x.h t1, .int x.l t2, .int x.s t3] n) ∈ cols) ∧ SpotsOf cols vs xs
  | _, _ => False
theorem SpotsOf.mono {cols cols' : List (Addr × Obj)} (hs : ∀ p ∈ cols, p ∈ cols') : ∀ {vs : List Value} {xs : List Spot}, SpotsOf cols vs xs → SpotsOf cols' vs xs
  | [], [], _ => trivial
  | .ref a :: vs, x :: xs, c => by
    obtain ⟨ok, ⟨t1, t2, t3, n, hm⟩, r⟩ := c
    exact ⟨ok, ⟨t1, t2, t3, n, hs _ hm⟩, SpotsOf.mono hs r⟩
theorem SpotsOf.append {cols : List (Addr × Obj)} : ∀ {vs vs' : List Value} {xs xs' : List Spot}, SpotsOf cols vs xs → SpotsOf cols vs' xs' → SpotsOf cols (vs ++ vs') (xs ++ xs')
  | [], _, [], _, _, b => b
  | .ref a :: vs, _, x :: xs, _, c, b => ⟨c.1, c.2.1, SpotsOf.append c.2.2 b⟩
theorem SpotsOf.length {cols : List (Addr × Obj)} : ∀ {vs : List Value} {xs : List Spot}, SpotsOf cols vs xs → vs.length = xs.length
  | [], [], _ => rfl
  | .ref a :: vs, x :: xs, c => by rw [List.length_cons, List.length_cons, SpotsOf.length c.2.2]
theorem SpotsOf.reverse {cols : List (Addr × Obj)} : ∀ {vs : List Value} {xs : List Spot}, SpotsOf cols vs xs → SpotsOf cols vs.reverse xs.reverse
  | [], [], _ => trivial
  | .ref a :: vs, x :: xs, c => by
    rw [List.reverse_cons, List.reverse_cons]
    exact SpotsOf.append (SpotsOf.reverse c.2.2) ⟨c.1, c.2.1, trivial⟩
theorem SpotsOf.get {cols : List (Addr × Obj)} : ∀ {vs : List Value} {xs : List Spot}, SpotsOf cols vs xs → ∀ (i : Nat) (v : Value), vs[i]? = some v → ∃ (y : Spot) (t : Addr) (t1 t2 t3 : Tok) (n : Nat), xs[i]? = some y ∧ y.ok ∧ v = .ref t ∧ (t, tupO [.int y.h t1, .int y.l t2, .int y.s t3] n) ∈ cols
  | [], [], _, _, _, hv => by simp at hv
  | .ref a :: vs, x :: xs, c, 0, v, hv => by
    obtain ⟨ok, ⟨t1, t2, t3, n, hm⟩, r⟩ := c
    exact ⟨x, a, t1, t2, t3, n, rfl, ok, by simpa using hv.symm, hm⟩
  | .ref a :: vs, x :: xs, c, i + 1, v, hv => by
    have := SpotsOf.get c.2.2 i v (by simpa using hv)
    simpa using this
/-- the head of a turn of the law's own loop -/
structure LawAt (g : Heap) (L it dl hl ll c1 c2 c3 c4 : Addr) (draws done : List Int) (h : Heap) (oI o1 o2 o3 o4 : Obj) (vs hv lv : List Value) (nv nh nl : Nat) (tx : Str) (tt : Tok) (cols : List (Addr × Obj)) (m : Str → Option Value) : Prop where
  sp : ∃ todo, draws = done ++ todo
  iter : IterO oI dl done.length
  told : Told [(Str.ofString "draws", Value.ref dl), (Str.ofString "text", .str tx tt), (Str.ofString "laid", .ref ll)] m
  F : Fr g L h m
  N : News g L h ((it, oI) :: (ll, lstO lv nl) :: (hl, lstO hv nh) :: (dl, lstO vs nv) :: (c4, o4) :: (c3, o3) :: (c2, o2) :: (c1, o1) :: (101, tabObj #[]) :: cols)
  iv : IntsV vs draws
  e1 : o1.data = .cell (some (.ref hl))
  e2 : o2.data = .cell (some (.bool (heldOf done).2))
  e3 : ∃ x, o3.data = .cell x
  e4 : ∃ x, o4.data = .cell x
  hh : SpotsOf cols hv (heldOf done).1
  hlaid : SpotsOf cols lv (laidOf done)
  htx : tx.cps.toList = pageOf done
  tlen : tx.length ≤ 200 * done.length
  nit : ll ≠ it ∧ dl < it ∧ dl < ll
  ap : ∀ a ∈ [it, ll, dl, c1, c2, c3, c4, 101], a ≠ hl
  far : ∀ p ∈ cols, p.1 ≠ it ∧ p.1 ≠ hl ∧ p.1 ≠ ll ∧ p.1 ≠ c1 ∧ p.1 ≠ c2 ∧ p.1 ≠ c3 ∧ p.1 ≠ c4 ∧ p.1 ≠ 101
end Mine
end
section
open PySem PySem.W PyProof.Rows PySem.Spec PySem.Calls
set_option linter.unusedVariables false
namespace Mine
def LawMid (g : Heap) (L it dl ll c1 c2 c3 c4 : Addr) (draws done : List Int) (h : Heap) : Prop :=
  ∃ (hl : Addr) (oI o1 o2 o3 o4 : Obj) (vs hv lv : List Value) (nv nh nl : Nat) (tx : Str) (tt : Tok) (cols : List (Addr × Obj)) (m : Str → Option Value), LawAt g L it dl hl ll c1 c2 c3 c4 draws done h oI o1 o2 o3 o4 vs hv lv nv nh nl tx tt cols m
/-- an address that none of a ledger's objects has -/
structure Ap (q : Addr) (news : List (Addr × Obj)) : Prop where
  h : ∀ p ∈ news, p.1 ≠ q
theorem Ap.of {g h : Heap} {L q : Addr} {news : List (Addr × Obj)} (N : News g L h news) (hn : h.get? q = none) : Ap q news := ⟨fun p hp e => by rw [← e, (N p hp).1] at hn; cases hn⟩
theorem Ap.ne {q a : Addr} {o : Obj} {news : List (Addr × Obj)} (h : Ap q news) (hm : (a, o) ∈ news) : @Ne Nat q a := fun e => h.h _ hm e.symm
theorem Ap.ne' {q a : Addr} {o : Obj} {news : List (Addr × Obj)} (h : Ap q news) (hm : (a, o) ∈ news) : @Ne Nat a q := h.h _ hm
theorem law_sub {α : Type} {a b c d e f : α} {l : List α} : ∀ p ∈ a :: b :: c :: d :: l, p ∈ a :: b :: c :: d :: e :: f :: l := by
  repeat' (first | (intro p hp; (repeat (first | exact hp | refine List.Mem.tail _ ?_)); done) | refine List.forall_mem_cons.mpr ⟨by repeat (first | exact List.Mem.head _ | refine List.Mem.tail _ ?_), ?_⟩)
section
variable {prog : Program} {w : World} {A : Around} {s : Shared} {g : Heap} {L it dl ll c1 c2 c3 c4 : Addr} {draws : List Int} {R : Result → Shared → Prop} {target : Expr} {body : List Stmt} {env : Env}
theorem law_loop (hh : A.handled = none) (hc : c1 < dl ∧ c2 < dl ∧ c3 < dl ∧ c4 < dl ∧ 101 < dl) (J0 : LawMid g L it dl ll c1 c2 c3 c4 draws [] s.heap)
    (turn : ∀ (d : Int) (done todo : List Int) (td : Tok) (hl : Addr) (oI oI' o1 o2 o3 o4 : Obj) (vs hv lv : List Value) (nv nh nl : Nat) (tx : Str) (tt : Tok) (cols : List (Addr × Obj)) (m : Str → Option Value) (h h' : Heap) (tk : Nat), draws = done ++ d :: todo →
      LawAt g L it dl hl ll c1 c2 c3 c4 draws done h oI o1 o2 o3 o4 vs hv lv nv nh nl tx tt cols m → IterO oI' dl (done.length + 1) → Fr g L h' m →
      News g L h' ((it, oI') :: (ll, lstO lv nl) :: (hl, lstO hv nh) :: (dl, lstO vs nv) :: (c4, o4) :: (c3, o3) :: (c2, o2) :: (c1, o1) :: (101, tabObj #[]) :: cols) →
      wpAny (model prog w) A (assign target env (.int d td)) (fun _ s₂ => wpAny (model prog w) A (execs body env) (fun f s₃ => match f with
          | .next | .cont => ∃ h' tk', s₃ = { s with heap := h', toks := tk' } ∧ LawMid g L it dl ll c1 c2 c3 c4 draws (done ++ [d]) h'
          | .brk => R (.ok .next) s₃
          | .ret v => R (.ok (.ret v)) s₃) (notedBy (model prog w) A env fun e s' => R (.error e) s') s₂) (notedBy (model prog w) A env fun e s' => R (.error e) s') { s with heap := h', toks := tk })
    (fin : ∀ (hl : Addr) (o1 o2 o3 o4 : Obj) (vs hv lv : List Value) (nv nh nl : Nat) (tx : Str) (tt : Tok) (cols : List (Addr × Obj)) (m : Str → Option Value) (h h' : Heap) (tk : Nat), (∃ oI, LawAt g L it dl hl ll c1 c2 c3 c4 draws draws h oI o1 o2 o3 o4 vs hv lv nv nh nl tx tt cols m) → Fr g L h' m →
      News g L h' ((ll, lstO lv nl) :: (hl, lstO hv nh) :: (dl, lstO vs nv) :: (c4, o4) :: (c3, o3) :: (c2, o2) :: (c1, o1) :: (101, tabObj #[]) :: cols) → R (.ok .next) { s with heap := h', toks := tk })
    (ht : ∀ v, letOwnedTupleGo target (.ref it) v = pure () := by intro _; rfl) : codeAny (model prog w) A (.forLoop target (.ref it) body [] env) R s := by
  let Inv1 : Nat → Shared → Prop := fun n s' => ∃ (done : List Int) (h : Heap) (tk : Nat), s' = { s with heap := h, toks := tk } ∧ n = draws.length - done.length ∧ done.length ≤ draws.length ∧ LawMid g L it dl ll c1 c2 c3 c4 draws done h
  refine codeAny_forLoop Inv1 ?_ draws.length ⟨[], s.heap, s.toks, rfl, rfl, Nat.zero_le _, J0⟩ ht
  rintro n s' ⟨done, h, tk, rfl, rfl, hdl, hl, oI, o1, o2, o3, o4, vs, hv, lv, nv, nh, nl, tx, tt, cols, m, J⟩
  obtain ⟨todo, hsp⟩ := J.sp
  obtain ⟨k2, k4, k6⟩ := J.nit
  have k1 : hl ≠ it := (J.ap it (.head _)).symm
  have e4 : ∀ {a : Addr}, a < dl → a ≠ it := fun h => Nat.ne_of_lt (Nat.lt_trans h k4)
  refine listNext_K (l := dl) (vs := vs) (n := nv) hh J.F J.N ?_ J.iter (by k_mem) ?_ ?_
  · exact List.forall_mem_cons.mpr ⟨k2, List.forall_mem_cons.mpr ⟨k1, List.forall_mem_cons.mpr ⟨Nat.ne_of_lt k4, List.forall_mem_cons.mpr ⟨e4 hc.2.2.2.1, List.forall_mem_cons.mpr ⟨e4 hc.2.2.1, List.forall_mem_cons.mpr ⟨e4 hc.2.1, List.forall_mem_cons.mpr ⟨e4 hc.1, List.forall_mem_cons.mpr ⟨e4 hc.2.2.2.2, fun p hp => (J.far p hp).1⟩⟩⟩⟩⟩⟩⟩⟩
  · intro v hv' oI' h' hI' F' N'
    obtain ⟨d, td, hd, rfl⟩ := J.iv.get _ _ hv'
    cases todo with
    | nil =>
      rw [hsp, List.append_nil] at hd
      rw [List.getElem?_eq_none (Nat.le_refl _)] at hd
      cases hd
    | cons d' todo =>
      have : d' = d := by
        rw [hsp, List.getElem?_append_right (Nat.le_refl _), Nat.sub_self] at hd
        simpa using hd
      subst this
      refine wpAny_mono (turn d' done todo td hl oI oI' o1 o2 o3 o4 vs hv lv nv nh nl tx tt cols m h h' tk hsp J hI' F' N') (fun _ s₂ h₂ => wpAny_mono h₂ (fun f s₃ h₃ => ?_) fun _ _ e => e) fun _ _ e => e
      have hlen : (done ++ [d']).length ≤ draws.length ∧ draws.length - (done ++ [d']).length < draws.length - done.length := by
        rw [hsp]; simp only [List.length_append, List.length_cons, List.length_nil]; omega
      cases f with
      | next => obtain ⟨h3, tk3, rfl, M⟩ := h₃; exact ⟨_, hlen.2, done ++ [d'], h3, tk3, rfl, rfl, hlen.1, M⟩
      | cont => obtain ⟨h3, tk3, rfl, M⟩ := h₃; exact ⟨_, hlen.2, done ++ [d'], h3, tk3, rfl, rfl, hlen.1, M⟩
      | brk => exact h₃
      | ret v => exact h₃
  · intro hle h' F' N'
    have hvl := J.iv.len
    have : todo = [] := by
      have := congrArg List.length hsp
      rw [List.length_append] at this
      exact List.length_eq_zero_iff.mp (by omega)
    subst this
    rw [List.append_nil] at hsp
    subst hsp
    exact wpAny_pure (fin hl o1 o2 o3 o4 vs hv lv nv nh nl tx tt cols m h h' tk ⟨oI, J⟩ F' N')
end
end Mine
end
section
open PySem PySem.W PyProof.Rows PySem.Spec PySem.Calls
set_option linter.unusedVariables false
namespace Mine
/-- a list of words -/
noncomputable def StrV : List Value → List (List Nat) → Prop
  | [], [] => True
  | .str x _ :: vs, l :: ls => x.cps.toList = l ∧ l.length ≤ 20 ∧ StrV vs ls
  | _, _ => False
theorem StrV.len : ∀ {vs : List Value} {ls : List (List Nat)}, StrV vs ls → vs.length = ls.length
  | [], [], _ => rfl
  | .str x _ :: vs, l :: ls, h => by rw [List.length_cons, List.length_cons, StrV.len h.2.2]
theorem StrV.get : ∀ {vs : List Value} {ls : List (List Nat)}, StrV vs ls → ∀ i : Nat, i < ls.length → ∃ x t l, vs[i]? = some (.str x t) ∧ ls[i]? = some l ∧ x.cps.toList = l ∧ l.length ≤ 20
  | [], [], _, i, hi => absurd hi (Nat.not_lt_zero _)
  | .str x t :: vs, l :: ls, h, 0, hi => ⟨x, t, l, rfl, rfl, h.1, h.2.1⟩
  | .str x t :: vs, l :: ls, h, i + 1, hi => by simpa using StrV.get h.2.2 i (by simpa using hi)
theorem StrV.all : ∀ {vs : List Value} {ls : List (List Nat)}, StrV vs ls → ∀ l ∈ ls, l.length ≤ 20
  | [], [], _, l, hl => nomatch hl
  | .str x t :: vs, l :: ls, h, l', hl => by
    rcases List.mem_cons.mp hl with rfl | hl
    · exact h.2.1
    · exact StrV.all h.2.2 l' hl
theorem encW_len (l : List Nat) (e : Int) : (encW l e).length ≤ 2 * l.length + 3 := by
  have hq : ∀ g : Int, (gapQ g).length ≤ 1 := fun g => by unfold gapQ; (repeat' split) <;> simp
  have hp : ∀ g : Int, (gapP g).length ≤ 1 := fun g => by unfold gapP; (repeat' split) <;> simp
  have hf : ∀ l : List Nat, (l.flatMap fun c => [92, c]).length = 2 * l.length := fun l => by
    induction l with
    | nil => rfl
    | cons c r ih => rw [List.flatMap_cons, List.length_append, ih]; show 2 + _ = 2 * (r.length + 1); omega
  unfold encW
  split
  · rw [List.length_append, List.length_cons, List.length_cons]; have := hq ((e.fdiv 3).fmod 4); omega
  split
  · rw [List.length_append, hf]; have := hp ((e.fdiv 3).fmod 4); omega
  · rw [List.length_append]; have := hp ((e.fdiv 3).fmod 4); omega
theorem encAll_snoc : ∀ (ws : List (List Nat)) (x : List Nat) (e : Int), encAll (ws ++ [x]) e = encAll ws e ++ encW x (e + ws.length)
  | [], x, e => by show encW x e ++ [] = [] ++ encW x (e + (0 : Nat)); simp
  | w :: ws, x, e => by
    show encW w e ++ encAll (ws ++ [x]) (e + 1) = (encW w e ++ encAll ws (e + 1)) ++ encW x (e + ((ws.length + 1 : Nat) : Int))
    rw [encAll_snoc ws x (e + 1), List.append_assoc]
    have : e + 1 + (ws.length : Int) = e + ((ws.length + 1 : Nat) : Int) := by omega
    rw [this]
theorem encAll_len : ∀ (ws : List (List Nat)) (e : Int), (∀ w ∈ ws, w.length ≤ 20) → (encAll ws e).length ≤ 43 * ws.length
  | [], _, _ => Nat.le_refl _
  | w :: ws, e, h => by
    show (encW w e ++ encAll ws (e + 1)).length ≤ 43 * (ws.length + 1)
    have a := encW_len w e
    have b := h w (.head _)
    have c := encAll_len ws (e + 1) fun w hw => h w (.tail _ hw)
    rw [List.length_append]; omega
section
variable {prog : Program} {w : World} {A : Around} {E : Value → Shared → Prop} {s : Shared} {g : Heap} {L W iw : Addr} {m0 : Str → Option Value} {rest : List (Addr × Obj)} {wvs : List Value} {ws : List (List Nat)} {nW : Nat}
theorem item_word {value slice : PySem.Expr} {i : Int} {u : Tok} {v : Value} {news : List (Addr × Obj)} {Q : Value → Shared → Prop} (N : News g L s.heap news) (hl : (W, lstO wvs nW) ∈ news) (h0 : 0 ≤ i) (h4 : i < 5) (hv : wvs[i.toNat]? = some v) (h : Q v s)
    (hs : subscripted slice false (.ref W) (.int i u) = operate [.ref W, .int i u] (getItem (.ref W) (.int i u)) := by with_unfolding_all rfl) :
    wpAny (model prog w) A (subscriptTail value slice (.ref W) (.int i u)) Q E s :=
  item_litK (vs := wvs) ⟨_, (N _ hl).1, rfl, nW, rfl⟩ h0 (by omega) hv h hs
theorem words_loop {R : Result → Shared → Prop} {target : PySem.Expr} {body : List Stmt} {env : Env} {cl : List (Str × Value)} {tx0 : Str} {tt0 : Tok} {e : Int} {nm0 : Str}
    (hh : A.handled = none) (F0 : Fr g L s.heap m0) (N0 : News g L s.heap ((iw, rit 0 wvs.length) :: (W, lstO wvs nW) :: rest)) (hT : Told ((nm0, .str tx0 tt0) :: cl) m0)
    (hn : ∀ p ∈ (W, lstO wvs nW) :: rest, p.1 ≠ iw) (hv : StrV wvs ws) (h4 : ws.length ≤ 4) (htx : tx0.length ≤ 3000)
    (turn : ∀ (i : Nat) (x : Str) (t : Tok) (l : List Nat) (tx : Str) (tt : Tok) (m : Str → Option Value) (h : Heap) (tk : Nat), wvs[i]? = some (.str x t) → i < 4 → x.cps.toList = l → x.length ≤ 20 → tx.length ≤ 3300 → Told ((nm0, .str tx tt) :: cl) m → Fr g L h m →
      News g L h ((iw, rit ((i : Int) + 1) ((wvs.length : Int) - i - 1)) :: (W, lstO wvs nW) :: rest) →
      wpAny (model prog w) A (assign target env (.int (i : Int) tk)) (fun _ s₂ => wpAny (model prog w) A (execs body env) (fun f s₃ => match f with
          | .next | .cont => ∃ h' tk', s₃ = { s with heap := h', toks := tk' } ∧ ∃ tx' tt' m', Told ((nm0, .str tx' tt') :: cl) m' ∧ Fr g L h' m' ∧ News g L h' ((iw, rit ((i : Int) + 1) ((wvs.length : Int) - i - 1)) :: (W, lstO wvs nW) :: rest) ∧ tx'.cps.toList = tx.cps.toList ++ encW l (e + i)
          | .brk => R (.ok .next) s₃
          | .ret v => R (.ok (.ret v)) s₃) (notedBy (model prog w) A env fun e s' => R (.error e) s') s₂) (notedBy (model prog w) A env fun e s' => R (.error e) s') { s with heap := h, toks := tk + 1 })
    (fin : ∀ (tx : Str) (tt : Tok) (m : Str → Option Value) (h : Heap) (tk : Nat), Told ((nm0, .str tx tt) :: cl) m → Fr g L h m → News g L h ((W, lstO wvs nW) :: rest) → tx.cps.toList = tx0.cps.toList ++ encAll ws e → tx.length ≤ tx0.length + 172 → R (.ok .next) { s with heap := h, toks := tk })
    (ht : ∀ v, letOwnedTupleGo target (.ref iw) v = pure () := by intro _; rfl) : codeAny (model prog w) A (.forLoop target (.ref iw) body [] env) R s := by
  have hlen := hv.len
  have hsz : ∀ (tx : Str) (k : Nat), tx.cps.toList = tx0.cps.toList ++ encAll (ws.take k) e → tx.length ≤ tx0.length + 172 := by
    intro tx k q
    have q2 := congrArg List.length q
    rw [List.length_append] at q2
    have q3 := encAll_len (ws.take k) e fun w hw => hv.all w (List.mem_of_mem_take hw)
    have q4 : (ws.take k).length ≤ 4 := Nat.le_trans (List.length_take_le' ..) h4
    show tx.cps.size ≤ tx0.cps.size + 172
    rw [← Array.length_toList, ← Array.length_toList]
    omega
  let Inv1 : Nat → Shared → Prop := fun n s' => ∃ (i : Nat) (h : Heap) (tk : Nat) (tx : Str) (tt : Tok) (m : Str → Option Value), s' = { s with heap := h, toks := tk } ∧ i ≤ ws.length ∧ n = ws.length - i ∧ Told ((nm0, .str tx tt) :: cl) m ∧ Fr g L h m ∧ News g L h ((iw, rit (i : Int) ((wvs.length : Int) - i)) :: (W, lstO wvs nW) :: rest) ∧ tx.cps.toList = tx0.cps.toList ++ encAll (ws.take i) e
  refine codeAny_forLoop Inv1 ?_ ws.length
    ⟨0, s.heap, s.toks, tx0, tt0, m0, rfl, Nat.zero_le _, rfl, hT, F0, by simpa using N0, by simp [encAll]⟩ ht
  rintro n s' ⟨i, h, tk, tx, tt, m, rfl, hi, rfl, hm, F, N, hx⟩
  refine rangeNext_K hh F N hn ?_ ?_
  · intro hl h' tk' F' N'
    have hi' : i < ws.length := by omega
    obtain ⟨x, t, l, e1, e2, e3, e4⟩ := hv.get i hi'
    refine wpAny_mono (turn i x t l tx tt m h' tk' e1 (by omega) e3 (by show x.cps.size ≤ 20; rw [← Array.length_toList, e3]; exact e4) (Nat.le_trans (hsz tx i hx) (by omega)) hm F' N') (fun _ s₂ h₂ => wpAny_mono h₂ (fun f s₃ h₃ => ?_) fun _ _ q => q) fun _ _ q => q
    have key : ∀ {h3 : Heap} {tk3 : Nat} {s₃ : Shared} {tx' : Str} {tt' : Tok} {m' : Str → Option Value}, s₃ = { s with heap := h3, toks := tk3 } → Told ((nm0, .str tx' tt') :: cl) m' → Fr g L h3 m' → News g L h3 ((iw, rit ((i : Int) + 1) ((wvs.length : Int) - i - 1)) :: (W, lstO wvs nW) :: rest) → tx'.cps.toList = tx.cps.toList ++ encW l (e + i) →
        ∃ m, m < ws.length - i ∧ ∃ (i : Nat) (h : Heap) (tk : Nat) (tx : Str) (tt : Tok) (m' : Str → Option Value), s₃ = { s with heap := h, toks := tk } ∧ i ≤ ws.length ∧ m = ws.length - i ∧ Told ((nm0, .str tx tt) :: cl) m' ∧ Fr g L h m' ∧ News g L h ((iw, rit (i : Int) ((wvs.length : Int) - i)) :: (W, lstO wvs nW) :: rest) ∧ tx.cps.toList = tx0.cps.toList ++ encAll (ws.take i) e := by
      intro h3 tk3 s₃ tx' tt' m' q1 q2 q3 q4 q5
      refine ⟨ws.length - (i + 1), by omega, i + 1, h3, tk3, tx', tt', m', q1, hi', rfl, q2, q3, ?_, ?_⟩
      · have : ((wvs.length : Int) - ((i + 1 : Nat) : Int)) = (wvs.length : Int) - i - 1 := by omega
        rw [this]; exact q4
      · rw [q5, hx, List.take_add_one, e2]
        show _ = _ ++ encAll (ws.take i ++ [l]) e
        rw [encAll_snoc, List.length_take, Nat.min_eq_left (Nat.le_of_lt hi'), List.append_assoc]
    cases f with
    | next => obtain ⟨h3, tk3, q1, tx', tt', m', q2, q3, q4, q5⟩ := h₃; exact key q1 q2 q3 q4 q5
    | cont => obtain ⟨h3, tk3, q1, tx', tt', m', q2, q3, q4, q5⟩ := h₃; exact key q1 q2 q3 q4 q5
    | brk => exact h₃
    | ret v => exact h₃
  · intro hl h' F' N'
    have hi' : i = ws.length := by omega
    subst hi'
    rw [List.take_length] at hx
    exact wpAny_pure (fin tx tt m h' tk hm F' N' hx (hsz tx ws.length (by rw [List.take_length]; exact hx)))
end
end Mine
namespace Mine
theorem law_end {g h : Heap} {L it dl hl ll c1 c2 c3 c4 : Addr} {draws done todo : List Int} {d : Int} {deed : Deed} {oI o1 o2 o3 o4 : Obj} {vs hv lv : List Value} {nv nh nl : Nat} {tx : Str} {tt : Tok} {cols rest : List (Addr × Obj)} {m : Str → Option Value}
    (hde : deedOf d = deed) (hsp : draws = done ++ d :: todo) (hI : IterO oI dl (done.length + 1)) (hT : Told [(Str.ofString "draws", Value.ref dl), (Str.ofString "text", .str tx tt), (Str.ofString "laid", .ref ll)] m) (F : Fr g L h m) (N : News g L h rest)
    (hs : ∀ p ∈ (it, oI) :: (ll, lstO lv nl) :: (hl, lstO hv nh) :: (dl, lstO vs nv) :: (c4, o4) :: (c3, o3) :: (c2, o2) :: (c1, o1) :: (101, tabObj #[]) :: cols, p ∈ rest) (iv : IntsV vs draws)
    (e1 : o1.data = .cell (some (.ref hl))) (e2 : o2.data = .cell (some (.bool (holdD deed (heldOf done)).2))) (e3 : ∃ x, o3.data = .cell x) (e4 : ∃ x, o4.data = .cell x)
    (hh : SpotsOf cols hv (holdD deed (heldOf done)).1) (hlaid : SpotsOf cols lv (laidOf done ++ laidD deed)) (htx : tx.cps.toList = pageOf done ++ encAll deed.words (d.fdiv 78336)) (tlen : tx.length ≤ 200 * done.length + 172)
    (nit : ll ≠ it ∧ dl < it ∧ dl < ll) (ap : ∀ a ∈ [it, ll, dl, c1, c2, c3, c4, 101], a ≠ hl) (far : ∀ p ∈ cols, p.1 ≠ it ∧ p.1 ≠ hl ∧ p.1 ≠ ll ∧ p.1 ≠ c1 ∧ p.1 ≠ c2 ∧ p.1 ≠ c3 ∧ p.1 ≠ c4 ∧ p.1 ≠ 101) :
    LawAt g L it dl hl ll c1 c2 c3 c4 draws (done ++ [d]) h oI o1 o2 o3 o4 vs hv lv nv nh nl tx tt cols m := by
  subst hde
  have hl1 : (done ++ [d]).length = done.length + 1 := by simp
  refine ⟨⟨todo, by rw [hsp, List.append_assoc]; rfl⟩, by rw [hl1]; exact hI, hT, F, fun p hp => N p (hs p hp), iv, e1, by rw [held_snoc]; exact e2, e3, e4, by rw [held_snoc]; exact hh, by rw [laid_snoc]; exact hlaid, by rw [page_snoc]; exact htx, by rw [hl1]; omega, nit, ap, far⟩
theorem tl3 {α : Type} {a b c : α} {l : List α} : ∀ p ∈ l, p ∈ a :: b :: c :: l := fun p hp => .tail _ (.tail _ (.tail _ hp))
theorem deed_neg {d : Int} (h : (d.fmod 4 == 1) = true) : deedOf d = .neg := by unfold deedOf; rw [if_pos (by simpa using h)]
theorem deed_drop {d : Int} (h : ¬ (d.fmod 4 == 1) = true) (h2 : (d.fmod 4 == 2) = true) : deedOf d = .drop (spotOf d).l ((spotOf d).l + 1 + (spotOf d).s.fmod 4) := by unfold deedOf; rw [if_neg (by simpa using h), if_pos (by simpa using h2)]
theorem fd_nn {d : Int} (h : 0 ≤ d) : 0 ≤ d.fdiv 78336 := by rw [Int.fdiv_eq_ediv_of_nonneg _ (by decide)]; omega
theorem line_enc {tx r : Str} {l : List Nat} {e : Int} (h1 : tx.length ≤ 3300) (h2 : r.cps.toList = encW l e) (h3 : l.length ≤ 20) : tx.length + r.length ≤ sizeLine := by
  have a := encW_len l e
  have b : r.length = (encW l e).length := by show r.cps.size = _; rw [← Array.length_toList, h2]
  exact Nat.le_trans (by omega : _ ≤ 3300 + 43) (by decide)
theorem app_enc {tx r x : Str} {l : List Nat} {e : Int} (h2 : r.cps.toList = encW x.cps.toList e) (h3 : x.cps.toList = l) : (tx ++ r).cps.toList = tx.cps.toList ++ encW l e := by rw [Str.cps_append, Array.toList_append, h2, h3]
theorem ne_all {q : Addr} {l : List (Addr × Obj)} (h : ∀ p ∈ l, p.1 < q) : ∀ p ∈ l, p.1 ≠ q := fun p hp => Nat.ne_of_lt (h p hp)
end Mine
end
section
open PySem PySem.W PyProof.Rows PySem.Spec PySem.Calls PyProof.Rows.LCg PyProof.Rows.LCt
set_option linter.unusedVariables false
namespace Mine
theorem CompEnd.mono {h₀ : Heap} {L : Addr} {m : Str → Option Value} {s₁ : Shared} {I : Addr} {oI : Obj} {C : Addr} {oC : Obj} {D : Addr} {oD : Obj} {S : List (Addr × Obj) → Prop} {r r' : Value → List (Addr × Obj) → Prop} {y : Value} {s₂ : Shared} (h : CompEnd h₀ L m s₁ I oI C oC D oD S r y s₂) (k : ∀ nw, r y nw → r' y nw) : CompEnd h₀ L m s₁ I oI C oC D oD S r' y s₂ := by
  obtain ⟨h', tk, nw, e, F, N, o, hs, q⟩ := h
  exact ⟨h', tk, nw, e, F, N, o, hs, k _ q⟩
section
variable {prog : Program} {w : World} {A : Around} {s : Shared} {h₀ : Heap} {L : Addr} {m : Str → Option Value} {env : Env} {ct elt : PySem.Expr} {x : Str} {scope : Scope} {cl : List (Str × Addr)} {S : List (Addr × Obj) → Prop} {P : Nat → Value → Prop} {Fin : List Value → List (Addr × Obj) → Prop} {n : Nat}
theorem restT_all (J : Nat → List Value → List (Addr × Obj) → Prop)
    (turn : ∀ i v ys news, P i v → i < n → J i ys news → ∀ I oI C oC D m₂ h tk (E' : Value → Shared → Prop), NsObj oC m₂ → m₂ x = some v → Fr h₀ L h m → News h₀ L h ((I, oI) :: (C, oC) :: (D, lst ys) :: news) → Off3 I C D news → ((@Ne Nat I C) ∧ (@Ne Nat I D) ∧ (@Ne Nat C D)) →
      wpAny (model prog w) A (isTrue ct (compEnvC scope cl C env) (eval ct (compEnvC scope cl C env))) (fun ok s' => if ok = true then
        wpAny (model prog w) A (eval elt (compEnvC scope cl C env)) (CompEnd h₀ L m { s with heap := h, toks := tk } I oI C oC D (lst ys) S (fun y news' => J (i + 1) (ys ++ [y]) news')) E' s'
        else CompEnd h₀ L m { s with heap := h, toks := tk } I oI C oC D (lst ys) S (fun _ news' => J (i + 1) ys news') Value.none s') E' { s with heap := h, toks := tk })
    (fin : ∀ ys news, J n ys news → Fin ys news) : ∀ (k i : Nat) (ys : List Value) (news : List (Addr × Obj)), i + k = n → J i ys news → CompRestT prog w A h₀ L m env ct elt x scope cl s S P Fin k i ys news
  | 0, i, ys, news, e, j => by
    have : i = n := by omega
    subst this
    exact fin _ _ j
  | k + 1, i, ys, news, e, j => by
    refine CompRestT.succ fun v I oI C oC D m₂ h tk E' hP hC hx F N off ne => ?_
    refine wpAny_mono (turn i v ys news hP (by omega) j I oI C oC D m₂ h tk E' hC hx F N off ne) (fun ok s' h' => ?_) fun _ _ q => q
    cases ok with
    | true => exact wpAny_mono h' (fun y s'' h'' => CompEnd.mono h'' fun nw q => restT_all J turn fin k (i + 1) _ _ (by omega) q) fun _ _ q => q
    | false =>
      simp only [Bool.false_eq_true, if_false] at h' ⊢
      exact CompEnd.mono h' fun nw q => restT_all J turn fin k (i + 1) _ _ (by omega) q
theorem rest_all (J : Nat → List Value → List (Addr × Obj) → Prop)
    (turn : ∀ i v ys news, P i v → i < n → J i ys news → ∀ I oI C oC D m₂ h tk (E' : Value → Shared → Prop), NsObj oC m₂ → m₂ x = some v → Fr h₀ L h m → News h₀ L h ((I, oI) :: (C, oC) :: (D, lst ys) :: news) → Off3 I C D news → ((@Ne Nat I C) ∧ (@Ne Nat I D) ∧ (@Ne Nat C D)) →
      wpAny (model prog w) A (eval elt (compEnvC scope cl C env)) (CompEnd h₀ L m { s with heap := h, toks := tk } I oI C oC D (lst ys) S (fun y news' => J (i + 1) (ys ++ [y]) news')) E' { s with heap := h, toks := tk })
    (fin : ∀ ys news, J n ys news → Fin ys news) : ∀ (k i : Nat) (ys : List Value) (news : List (Addr × Obj)), i + k = n → J i ys news → CompRest prog w A h₀ L m env elt x scope cl s S P Fin k i ys news
  | 0, i, ys, news, e, j => by
    have : i = n := by omega
    subst this
    exact fin _ _ j
  | k + 1, i, ys, news, e, j => by
    refine CompRest.succ fun v I oI C oC D m₂ h tk E' hP hC hx F N off ne => ?_
    exact wpAny_mono (turn i v ys news hP (by omega) j I oI C oC D m₂ h tk E' hC hx F N off ne) (fun y s'' h'' => CompEnd.mono h'' fun nw q => rest_all J turn fin k (i + 1) _ _ (by omega) q) fun _ _ q => q
end
theorem news_dup {g h : Heap} {L : Addr} {p : Addr × Obj} {news : List (Addr × Obj)} (N : News g L h news) (hm : p ∈ news) : News g L h (p :: news) := fun q hq => by
  rcases List.mem_cons.mp hq with rfl | hq
  · exact N _ hm
  · exact N _ hq
/-- what a drop leaves of the held -/
noncomputable def stays (lo hi : Int) (odd : Bool) (y : Spot) : Bool := !(decide (lo ≤ lgt odd y) && decide (lgt odd y < hi))
theorem spots_yes {cols : List (Addr × Obj)} {ys : List Value} {xs : List Spot} {i : Nat} {y : Spot} {f : Spot → Bool} {t : Addr} {t1 t2 t3 : Tok} {n : Nat} (h : SpotsOf cols ys ((xs.take i).filter f)) (hy : xs[i]? = some y) (ok : y.ok) (hf : f y = true) (hm : (t, tupO [.int y.h t1, .int y.l t2, .int y.s t3] n) ∈ cols) : SpotsOf cols (ys ++ [.ref t]) ((xs.take (i + 1)).filter f) := by
  have e : xs.take (i + 1) = xs.take i ++ [y] := by rw [List.take_add_one, hy]; rfl
  have e2 : [y].filter f = [y] := by simp [hf]
  rw [e, List.filter_append, e2]
  exact SpotsOf.append h ⟨ok, ⟨t1, t2, t3, n, hm⟩, trivial⟩
theorem spots_no {cols : List (Addr × Obj)} {ys : List Value} {xs : List Spot} {i : Nat} {y : Spot} {f : Spot → Bool} (h : SpotsOf cols ys ((xs.take i).filter f)) (hy : xs[i]? = some y) (hf : f y = false) : SpotsOf cols ys ((xs.take (i + 1)).filter f) := by
  have e : xs.take (i + 1) = xs.take i ++ [y] := by rw [List.take_add_one, hy]; rfl
  have e2 : [y].filter f = [] := by simp [hf]
  rw [e, List.filter_append, e2, List.append_nil]
  exact h
theorem off3_keep {I C D : Addr} {nw : List (Addr × Obj)} (o : Off3 I C D nw) : Off3 I C D nw := o
section
variable {prog : Program} {w : World} {A : Around} {s : Shared} {h₀ : Heap} {L ax : Addr} {m : Str → Option Value} {env : Env} {ct elt : PySem.Expr} {x : Str} {scope : Scope} {cl : List (Str × Addr)} {Fin : List Value → List (Addr × Obj) → Prop} {hv : List Value} {xs : List Spot} {cols nw0 : List (Addr × Obj)}
theorem drop_comp (f : Spot → Bool) (hsp : SpotsOf cols hv xs) (hin : ∀ p ∈ cols, p ∈ nw0) (hS : SrcAt h₀ ax hv.toArray nw0)
    (turn : ∀ (t : Addr) (y : Spot) (t1 t2 t3 : Tok) (n : Nat) (ys : List Value), y.ok → ∀ I oI C oC D m₂ h tk (E' : Value → Shared → Prop), NsObj oC m₂ → m₂ x = some (.ref t) → Fr h₀ L h m → News h₀ L h ((t, tupO [.int y.h t1, .int y.l t2, .int y.s t3] n) :: (I, oI) :: (C, oC) :: (D, lst ys) :: nw0) →
      wpAny (model prog w) A (isTrue ct (compEnvC scope cl C env) (eval ct (compEnvC scope cl C env))) (fun ok s' => if ok = true then
        wpAny (model prog w) A (eval elt (compEnvC scope cl C env)) (fun v s'' => ∃ h' tk', s'' = { s with heap := h', toks := tk' } ∧ v = .ref t ∧ f y = true ∧ Fr h₀ L h' m ∧ News h₀ L h' ((I, oI) :: (C, oC) :: (D, lst ys) :: nw0)) E' s'
        else ∃ h' tk', s' = { s with heap := h', toks := tk' } ∧ f y = false ∧ Fr h₀ L h' m ∧ News h₀ L h' ((I, oI) :: (C, oC) :: (D, lst ys) :: nw0)) E' { s with heap := h, toks := tk })
    (fin : ∀ ys, SpotsOf cols ys (xs.filter f) → Fin ys nw0) :
    CompRestT prog w A h₀ L m env ct elt x scope cl s (SrcAt h₀ ax hv.toArray) (fun i v => hv.toArray[i]? = some v) Fin hv.toArray.size 0 [] nw0 := by
  refine restT_all (n := hv.toArray.size) (fun i ys nw => nw = nw0 ∧ SpotsOf cols ys ((xs.take i).filter f)) ?_ (fun ys nw j => ?_) _ _ _ _ (by omega) ⟨rfl, trivial⟩
  · rintro i v ys _ hv' hi ⟨rfl, J⟩ I oI C oC D m₂ h tk E' hC hx F N off ne
    obtain ⟨y, t, t1, t2, t3, n, hy, ok, rfl, hm⟩ := hsp.get i v (by simpa using hv')
    refine wpAny_mono (turn t y t1 t2 t3 n ys ok I oI C oC D m₂ h tk E' hC hx F (news_dup N (.tail _ (.tail _ (.tail _ (hin _ hm)))))) (fun okk s' h' => ?_) fun _ _ q => q
    cases okk with
    | true =>
      simp only [if_true] at h' ⊢
      refine wpAny_mono h' (fun v s'' q => ?_) fun _ _ q => q
      obtain ⟨h2, tk2, rfl, rfl, hf, F2, N2⟩ := q
      exact ⟨h2, tk2, _, rfl, F2, N2, off, hS, rfl, spots_yes J hy ok hf hm⟩
    | false =>
      simp only [Bool.false_eq_true, if_false] at h' ⊢
      obtain ⟨h2, tk2, rfl, hf, F2, N2⟩ := h'
      exact ⟨h2, tk2, _, rfl, F2, N2, off, hS, rfl, spots_no J hy hf⟩
  · obtain ⟨rfl, J⟩ := j
    have e : xs.take hv.toArray.size = xs := by rw [List.size_toArray, hsp.length]; exact List.take_length
    rw [e] at J
    exact fin ys J
end
theorem held_len (ds : List Int) : (heldOf ds).1.length ≤ ds.length := by
  suffices h : ∀ (l : List Int) (st : List Spot × Bool), (l.foldl (fun st d => holdD (deedOf d) st) st).1.length ≤ st.1.length + l.length by
    have := h ds ([], false)
    show (ds.foldl (fun st d => holdD (deedOf d) st) ([], false)).1.length ≤ ds.length
    simpa using this
  intro l
  induction l with
  | nil => intro st; exact Nat.le_refl _
  | cons d l ih =>
    intro st
    rw [List.foldl_cons]
    refine Nat.le_trans (ih _) ?_
    have : (holdD (deedOf d) st).1.length ≤ st.1.length + 1 := by
      obtain ⟨a, b⟩ := st
      cases deedOf d with
      | lay x g => show (a ++ [_]).length ≤ _; rw [List.length_append]; exact Nat.le_refl _
      | neg => exact Nat.le_succ _
      | drop lo hi => exact Nat.le_trans (List.length_filter_le _ _) (Nat.le_succ _)
    rw [List.length_cons]; omega
theorem line_of {vs : List Value} (h : vs.length ≤ 1000) : vs.toArray.size ≤ sizeLine := by rw [List.size_toArray]; exact Nat.le_trans h (by decide)
theorem stays_t {lo hi : Int} {odd : Bool} {y : Spot} (h : ¬ (lo ≤ lgt odd y ∧ lgt odd y < hi)) : stays lo hi odd y = true := by
  unfold stays
  by_cases a : lo ≤ lgt odd y
  · have : ¬ lgt odd y < hi := fun b => h ⟨a, b⟩
    simp [a, this]
  · simp [a]
theorem stays_f {lo hi : Int} {odd : Bool} {y : Spot} (h : lo ≤ lgt odd y ∧ lgt odd y < hi) : stays lo hi odd y = false := by
  unfold stays; simp [h.1, h.2]
theorem sub_dr {α : Type} {W D T q D1 i l h x : α} {r : List α} : ∀ p ∈ i :: l :: D :: x :: r, p ∈ W :: D :: T :: q :: D1 :: i :: l :: h :: x :: r := by
  repeat' (first | (intro p hp; (repeat (first | exact hp | refine List.Mem.tail _ ?_)); done) | refine List.forall_mem_cons.mpr ⟨by repeat (first | exact List.Mem.head _ | refine List.Mem.tail _ ?_), ?_⟩)
theorem sub_sw {α : Type} {i W D : α} {r : List α} : ∀ p ∈ i :: W :: D :: r, p ∈ i :: D :: W :: r := by
  repeat' (first | (intro p hp; (repeat (first | exact hp | refine List.Mem.tail _ ?_)); done) | refine List.forall_mem_cons.mpr ⟨by repeat (first | exact List.Mem.head _ | refine List.Mem.tail _ ?_), ?_⟩)
theorem digs_le {n : Int} (h0 : 0 ≤ n) (h1 : n < 10000000000) : (digs n).length ≤ 20 := by
  obtain ⟨m, rfl⟩ := Int.eq_ofNat_of_zero_le h0
  unfold digs
  rw [KIN.signs_num, List.length_map]
  exact Nat.le_trans (KXf.digits_le (a := (m : Int)) (Int.natCast_nonneg m) h1) (by decide)
theorem sub_sw2 {α : Type} {W D : α} {r : List α} : ∀ p ∈ W :: D :: r, p ∈ D :: W :: r := by
  repeat' (first | (intro p hp; (repeat (first | exact hp | refine List.Mem.tail _ ?_)); done) | refine List.forall_mem_cons.mpr ⟨by repeat (first | exact List.Mem.head _ | refine List.Mem.tail _ ?_), ?_⟩)
end Mine
end
section
open PySem PySem.W PyProof.Rows PySem.Spec PySem.Calls PyProof.Rows.LCg PyProof.Rows.LCt
set_option linter.unusedVariables false
namespace Mine
/-- a tuple that the ledger holds -/
def TupIn (ax : Addr) (its : List Value) (nw : List (Addr × Obj)) : Prop := ∃ k, (ax, tupO its k) ∈ nw
section
variable {prog : Program} {w : World} {A : Around} {E : Value → Shared → Prop} {s : Shared} {h₀ : Heap} {L : Addr} {m : Str → Option Value} {env : Env} {elt iter : PySem.Expr} {x : Str} {scope : Scope} {cl : List (Str × Addr)}
theorem ListComp_tup {px : Pos} {pos : Pos} {Q : Value → Shared → Prop} (F₀ : Fr h₀ L s.heap m)
    (hclos : closureFor scope env = pure cl) (hcell : ∀ y ∈ scope.names, y.2 ≠ .cell) (hkind : scope.kind = .function)
    (hnames : ∀ y ∈ scope.names, y.2 = .local → scope.names.lookup y.1 = some .local) (hx : scope.names.lookup x = some .local)
    (h : wpAny (model prog w) A (eval iter env) (fun xv s₁ => ∃ ax its news, xv = .ref ax ∧ A.handled = none ∧ Fr h₀ L s₁.heap m ∧ News h₀ L s₁.heap news ∧ TupIn ax its news ∧ its.length ≤ 1000 ∧
      ∀ s₂ : Shared, (∃ h, s₂ = { s₁ with heap := h }) → CompRest prog w A h₀ L m env elt x scope cl s₂ (TupIn ax its) (fun i v => its.toArray[i]? = some v) (FinE h₀ L m s₂ Q) its.toArray.size 0 [] news) E s)
    (hs : ∀ x, foldedSetIterable iter env x = pure x := by intro _; rfl) :
    wpAny (model prog w) A (eval (.ListComp elt [⟨.Name x px, iter, [], 0⟩] scope pos) env) Q E s := by
  rw [eval_ListComp]
  refine wpAny_comprehension_free (use := none) rfl hs hclos hkind hnames (wpAny_mono h (fun xv s₁ h₁ => ?_) fun _ _ e => e)
  obtain ⟨ax, its, news, rfl, hh, F, N, S, hsz, R⟩ := h₁
  have hl : s₁.heap.IsTuple ax its.toArray := by obtain ⟨k, hm⟩ := S; exact ⟨_, (N _ hm).1, rfl, k, rfl⟩
  have hlt : ax < s₁.heap.objs.size := by obtain ⟨_, e, _⟩ := hl; exact Heap.lt_size e
  refine wpAny_pyIter_tuple hl ?_
  have up : ∀ b o, s₁.heap.get? b = some o → (s₁.heap.push { cls := .type "tuple_iterator", data := .fields #[.ref ax, .int 0 0] }).get? b = some o := fun b o e => Heap.get?_push_of_some _ e
  refine block_U (Walks.tuple hh s₁.heap.objs.size ax (Nat.ne_of_lt hlt) its.toArray) (line_of hsz) (fun i h st => by obtain ⟨o, e, _⟩ := st.1; exact ⟨o, e⟩) ?_ hcell hkind hx ⟨⟨_, Heap.get?_push_size _ rfl, rfl, rfl⟩, ?_⟩ (fun b hb => ?_)
    (F.keeps up) (N.grown up) (Nat.ne_of_lt F.ns.lt) (next_is_new F) (fun p hp => Nat.ne_of_lt (Heap.lt_size (N p hp).1)) S (R _ ⟨_, rfl⟩) ?_
  · intro i h h' o nw st e e' k N' S'
    refine ⟨by obtain ⟨o', q, r⟩ := st.1; rw [e] at q; cases q; exact ⟨o, e', r⟩, ?_⟩
    obtain ⟨kk, hm⟩ := S'
    exact ⟨_, (N' _ hm).1, rfl, kk, rfl⟩
  · obtain ⟨o, e, r⟩ := hl
    exact ⟨o, up _ _ e, r⟩
  · show b < (s₁.heap.push _).objs.size
    rw [Heap.size_push]
    rcases List.mem_cons.mp hb with rfl | hb
    · exact Nat.lt_succ_self _
    · rw [List.mem_singleton.mp hb]; exact Nat.lt_succ_of_lt hlt
  · intro D C h tk m' ys news' F' N' o1 hn hC₀ hD₀ hCL hDL hCD offC fin
    refine ⟨m', hn, fun h'' hs'' => fin D h'' tk (F'.change hs'' hCL hC₀) (fun p hp => ?_) o1⟩
    refine ⟨hs''.extBut _ _ ?_ (N' p hp).1, (N' p hp).2⟩
    rcases List.mem_cons.mp hp with rfl | hp
    · exact Ne.symm hCD
    · exact offC p hp
theorem strs_comp {S : List (Addr × Obj) → Prop} {Fin : List Value → List (Addr × Obj) → Prop} {its : List Value} {args : List Int} {nw0 : List (Addr × Obj)} (hiv : IntsV its args) (hr : ∀ n ∈ args, 0 ≤ n ∧ n ≤ 2560) (hS : S nw0)
    (turn : ∀ (n : Int) (t : Tok) (ys : List Value), 0 ≤ n → n ≤ 2560 → ∀ I oI C oC D m₂ h tk (E' : Value → Shared → Prop), NsObj oC m₂ → m₂ x = some (.int n t) → Fr h₀ L h m → News h₀ L h ((I, oI) :: (C, oC) :: (D, lst ys) :: nw0) →
      wpAny (model prog w) A (eval elt (compEnvC scope cl C env)) (fun v s'' => ∃ h' tk' t', s'' = { s with heap := h', toks := tk' } ∧ v = .str (Str.ofString (toString n)) t' ∧ Fr h₀ L h' m ∧ News h₀ L h' ((I, oI) :: (C, oC) :: (D, lst ys) :: nw0)) E' { s with heap := h, toks := tk })
    (fin : ∀ ys, StrV ys (args.map digs) → Fin ys nw0) :
    CompRest prog w A h₀ L m env elt x scope cl s S (fun i v => its.toArray[i]? = some v) Fin its.toArray.size 0 [] nw0 := by
  have snoc : ∀ {ys : List Value} {ls : List (List Nat)} {x : Str} {t : Tok} {l : List Nat}, StrV ys ls → x.cps.toList = l → l.length ≤ 20 → StrV (ys ++ [.str x t]) (ls ++ [l]) := by
    intro ys
    induction ys with
    | nil => intro ls x t l h e q; cases ls with
      | nil => exact ⟨e, q, trivial⟩
      | cons => exact h.elim
    | cons y ys ih => intro ls x t l h e q; cases ls with
      | nil => cases y <;> exact h.elim
      | cons l' ls => cases y with
        | str a b => exact ⟨h.1, h.2.1, ih h.2.2 e q⟩
        | _ => exact h.elim
  refine rest_all (n := its.toArray.size) (fun i ys nw => nw = nw0 ∧ StrV ys ((args.take i).map digs)) ?_ (fun ys nw j => ?_) _ _ _ _ (by omega) ⟨rfl, trivial⟩
  · rintro i v ys _ hv' hi ⟨rfl, J⟩ I oI C oC D m₂ h tk E' hC hx F N off ne
    obtain ⟨n, t, hn, rfl⟩ := hiv.get i v (by simpa using hv')
    obtain ⟨r1, r2⟩ := hr n (List.mem_of_getElem? hn)
    refine wpAny_mono (turn n t ys r1 r2 I oI C oC D m₂ h tk E' hC hx F N) (fun v s'' q => ?_) fun _ _ q => q
    obtain ⟨h2, tk2, t', rfl, rfl, F2, N2⟩ := q
    refine ⟨h2, tk2, _, rfl, F2, N2, off, hS, rfl, ?_⟩
    rw [List.take_add_one, hn]
    show StrV _ (List.map digs (args.take i ++ [n]))
    rw [List.map_append]
    exact snoc J rfl (digs_le r1 (by omega))
  · obtain ⟨rfl, J⟩ := j
    have e : args.take its.toArray.size = args := by rw [List.size_toArray, hiv.len]; exact List.take_length
    rw [e] at J
    exact fin ys J
end
theorem deed_lay {d : Int} (h : ¬ (d.fmod 4 == 1) = true) (h2 : ¬ (d.fmod 4 == 2) = true) : deedOf d = .lay (spotOf d) (decide ((spotOf d).p0 = (spotOf d).p1 ∧ (spotOf d).p1 = (spotOf d).p2 ∧ (d.fdiv 39168).fmod 2 = 1)) := by unfold deedOf; rw [if_neg (by simpa using h), if_neg (by simpa using h2)]
theorem parts_range {x : Spot} (ok : x.ok) : ∀ n ∈ [x.p0, x.p1, x.p2], 0 ≤ n ∧ n ≤ 2560 := args_range (d := .lay x false) ⟨ok, fun h => nomatch h⟩
theorem StrV.cons {ys : List Value} {a : List Nat} {l : List (List Nat)} (h : StrV ys (a :: l)) : ∃ s u vs', ys = .str s u :: vs' ∧ StrV vs' l := by
  cases ys with
  | nil => exact h.elim
  | cons v vs =>
    cases v with
    | str s u => exact ⟨s, u, vs, rfl, h.2.2⟩
    | _ => exact h.elim
theorem StrV.three {ys : List Value} {a b c : List Nat} (h : StrV ys [a, b, c]) : ∃ sa ua sb ub sc uc, ys = [.str sa ua, .str sb ub, .str sc uc] := by
  obtain ⟨sa, ua, y1, rfl, h1⟩ := h.cons
  obtain ⟨sb, ub, y2, rfl, h2⟩ := h1.cons
  obtain ⟨sc, uc, y3, rfl, h3⟩ := h2.cons
  obtain rfl := List.length_eq_zero_iff.mp h3.len
  exact ⟨sa, ua, sb, ub, sc, uc, rfl⟩
theorem Ap.sub {q : Addr} {l l' : List (Addr × Obj)} (h : Ap q l) (hs : ∀ p ∈ l', p ∈ l) : Ap q l' := ⟨fun p hp => h.h p (hs p hp)⟩
theorem layw_t {x : Spot} {P : Prop} [Decidable P] (h : P) : (Deed.lay x (decide P)).words = [(Str.ofString "lay").cps.toList, digs x.p0] := by rw [decide_eq_true h]; rfl
theorem layw_f {x : Spot} {P : Prop} [Decidable P] (h : ¬ P) : (Deed.lay x (decide P)).words = [(Str.ofString "lay").cps.toList, digs x.p0, digs x.p1, digs x.p2] := by rw [decide_eq_false h]; rfl
theorem if_merge {M : Model} {A : Around} {E : Value → Shared → Prop} {g : Heap} {L : Addr} {st : Shared} {Q : Flow → Shared → Prop} {stmt : Stmt} {env : Env} {a b c e : Addr × Obj} {REST : List (Addr × Obj)} (cl : List (Str × Value)) (ws : List (List Nat)) (N : News g L st.heap (a :: b :: c :: e :: REST))
    (h1 : wpAny M A (exec stmt env) (fun f s' => ∃ h' tk' W nW wvs m', f = .next ∧ s' = { st with heap := h', toks := tk' } ∧ Told ((Str.ofString "words", Value.ref W) :: cl) m' ∧ Fr g L h' m' ∧ News g L h' ((W, lstO wvs nW) :: REST) ∧ StrV wvs ws ∧ Ap W REST) E st)
    (h2 : ∀ h' tk' W nW wvs m', Told ((Str.ofString "words", Value.ref W) :: cl) m' → Fr g L h' m' → News g L h' ((W, lstO wvs nW) :: REST) → StrV wvs ws → Ap W REST → Q .next { st with heap := h', toks := tk' }) : wpAny M A (exec stmt env) Q E st :=
  wpAny_mono h1 (fun f s' q => by
    obtain ⟨h', tk', W, nW, wvs, m', rfl, rfl, q1, q2, q3, q4, q5⟩ := q
    exact h2 h' tk' W nW wvs m' q1 q2 q3 q4 q5) fun _ _ q => q
theorem lay_le : (Str.ofString "lay").cps.toList.length ≤ 20 := by decide +kernel
theorem sub_w0 {α : Type} {W a b c : α} {r : List α} : ∀ p ∈ W :: r, p ∈ W :: a :: b :: c :: r := by
  repeat' (first | (intro p hp; (repeat (first | exact hp | refine List.Mem.tail _ ?_)); done) | refine List.forall_mem_cons.mpr ⟨by repeat (first | exact List.Mem.head _ | refine List.Mem.tail _ ?_), ?_⟩)
theorem sub_w1 {α : Type} {W W0 a b c : α} {r : List α} : ∀ p ∈ W :: r, p ∈ W :: W0 :: a :: b :: c :: r := by
  repeat' (first | (intro p hp; (repeat (first | exact hp | refine List.Mem.tail _ ?_)); done) | refine List.forall_mem_cons.mpr ⟨by repeat (first | exact List.Mem.head _ | refine List.Mem.tail _ ?_), ?_⟩)
section
variable {prog : Program} {w : World} {A : Around} {E : Value → Shared → Prop} {s : Shared} {g : Heap} {L D b : Addr} {m : Str → Option Value} {news news' : List (Addr × Obj)} {vs ws : List Value} {n n2 : Nat}
theorem seq_list_iadd : typeLookup (.type "list") (dunderI "add") = pure (some (.builtin "list.__iadd__")) := PySem.F.slot_list_iadd.lookup
theorem iadd_K {Q : Value → Shared → Prop} (F : Fr g L s.heap m) (N : News g L s.heap news) (hb : (b, lstO ws n2) ∈ news) (U : Upd D (lstO vs n) (lstO (vs ++ ws) (n + 1)) news news') (hne : ws.length ≠ 0) (hz : vs.length + ws.length ≤ 1000)
    (h : ∀ h', Fr g L h' m → News g L h' news' → Q (.ref D) { s with heap := h' }) : wpAny (model prog w) A (inplaceOp .Add (.ref D) (.ref b)) Q E s := by
  obtain ⟨pre, post, rfl, rfl, a, c⟩ := U.split
  have z := N (D, lstO vs n) (List.mem_append.mpr (.inr (.head _)))
  have hline : vs.toArray.size + ws.toArray.size ≤ sizeLine := by rw [List.size_toArray, List.size_toArray]; exact Nat.le_trans hz (by decide)
  unfold inplaceOp
  refine wpAny_holding ?_
  have hsq : isSeqSlot (some (.builtin "list.__iadd__")) = true := by decide +kernel
  have hfi : fillsInplaceSlot (.type "list") "add" (Operator.Add == .Add) = pure false := by
    unfold fillsInplaceSlot
    show (typeLookup (.type "list") (dunderI "add") >>= fun fi => pure (fi.isSome && !isSeqSlot fi)) = pure false
    rw [seq_list_iadd, pure_bind, hsq]; rfl
  have tD : s.TypeIs (.ref D) "list" := ⟨_, z.1, rfl⟩
  have tb : s.TypeIs (.ref b) "list" := ⟨_, (N _ hb).1, rfl⟩
  refine wpAny_bind (wpAny_typeOf tD (wpAny_bind (wpAny_of_eq hfi ?_)))
  show wpAny _ A (if false = true then _ else _) Q E s
  rw [if_neg Bool.false_ne_true]
  refine wpAny_bind (wpAny_binaryOp1_none (nm := "add") tD tb noFill_list_add ?_)
  refine wpAny_bind (wpAny_of_eq (PySem.seqSlot_of seq_list_iadd hsq) ?_)
  refine wpAny_bind (wpAny_rule ?_)
  refine call_meets PySem.F.slot_list_iadd tD PySem.F.entry_list_iadd (PySem.F.args_list_iadd_2 _ _) (PySem.AutoSeq1.list___iadd___list_list_0 D vs.toArray n b ws.toArray n2 (extend_door hline) (Nat.le_trans (Nat.le_add_right _ _) hline) (Nat.le_succ_of_le hline)) ⟨z.1, (N _ hb).1, ?_⟩
  refine (h _ (F.change (Heap.SameBut.update ..) z.2.1 z.2.2) (kl_turn _ N a c ?_ ?_))
  · simp
  · simp only [List.size_toArray, List.length_append]; omega
end
theorem laid_len (ds : List Int) : (laidOf ds).length ≤ 2 * ds.length := by
  induction ds with
  | nil => exact Nat.le_refl _
  | cons d l ih =>
    show (laidD (deedOf d) ++ laidOf l).length ≤ _
    have : (laidD (deedOf d)).length ≤ 2 := by cases deedOf d <;> simp [laidD]
    rw [List.length_append, List.length_cons]; omega
theorem sub_l2 {α : Type} {i l q W : α} {r : List α} : ∀ p ∈ i :: W :: q :: r, p ∈ i :: l :: q :: W :: r := by
  repeat' (first | (intro p hp; (repeat (first | exact hp | refine List.Mem.tail _ ?_)); done) | refine List.forall_mem_cons.mpr ⟨by repeat (first | exact List.Mem.head _ | refine List.Mem.tail _ ?_), ?_⟩)
theorem sub_l3 {α : Type} {l q W : α} {r : List α} : ∀ p ∈ W :: q :: r, p ∈ l :: q :: W :: r := by
  repeat' (first | (intro p hp; (repeat (first | exact hp | refine List.Mem.tail _ ?_)); done) | refine List.forall_mem_cons.mpr ⟨by repeat (first | exact List.Mem.head _ | refine List.Mem.tail _ ?_), ?_⟩)
theorem sub_l4 {α : Type} {i l q q2 W : α} {r : List α} : ∀ p ∈ i :: W :: q :: q2 :: r, p ∈ i :: l :: q :: q2 :: W :: r := by
  repeat' (first | (intro p hp; (repeat (first | exact hp | refine List.Mem.tail _ ?_)); done) | refine List.forall_mem_cons.mpr ⟨by repeat (first | exact List.Mem.head _ | refine List.Mem.tail _ ?_), ?_⟩)
theorem sub_l5 {α : Type} {l q q2 W : α} {r : List α} : ∀ p ∈ W :: q :: q2 :: r, p ∈ l :: q :: q2 :: W :: r := by
  repeat' (first | (intro p hp; (repeat (first | exact hp | refine List.Mem.tail _ ?_)); done) | refine List.forall_mem_cons.mpr ⟨by repeat (first | exact List.Mem.head _ | refine List.Mem.tail _ ?_), ?_⟩)
theorem sub_e1 {α : Type} {W q D i l h x a b c d e : α} {cols : List α} : ∀ p ∈ i :: l :: h :: x :: a :: b :: c :: d :: e :: (q :: D :: cols), p ∈ W :: q :: D :: i :: l :: h :: x :: a :: b :: c :: d :: e :: cols := by
  repeat' (first | (intro p hp; (repeat (first | exact hp | refine List.Mem.tail _ ?_)); done) | refine List.forall_mem_cons.mpr ⟨by repeat (first | exact List.Mem.head _ | refine List.Mem.tail _ ?_), ?_⟩)
theorem sub_e2 {α : Type} {W q q2 D i l h x a b c d e : α} {cols : List α} : ∀ p ∈ i :: l :: h :: x :: a :: b :: c :: d :: e :: (q :: q2 :: D :: cols), p ∈ W :: q :: q2 :: D :: i :: l :: h :: x :: a :: b :: c :: d :: e :: cols := by
  repeat' (first | (intro p hp; (repeat (first | exact hp | refine List.Mem.tail _ ?_)); done) | refine List.forall_mem_cons.mpr ⟨by repeat (first | exact List.Mem.head _ | refine List.Mem.tail _ ?_), ?_⟩)
theorem StrV.le {vs : List Value} {ls : List (List Nat)} {n : Nat} (h : StrV vs ls) (hl : ls.length ≤ n) : vs.length ≤ n := by rw [h.len]; exact hl
theorem lay_wl {x : Spot} {b : Bool} : (Deed.lay x b).words.length ≤ 4 := by
  cases b
  · exact Nat.le_refl 4
  · exact (by decide : 2 ≤ 4)
theorem len_word {prog : Program} {w : World} {A : Around} {E : Value → Shared → Prop} {s : Shared} {g : Heap} {L W : Addr} {n : Nat} {wvs : List Value} {ws : List (List Nat)} {news : List (Addr × Obj)} {Q : Value → Shared → Prop} (N : News g L s.heap news) (hs : StrV wvs ws) (hm : (W, lstO wvs n) ∈ news) (hw : wvs.length ≤ 1000)
    (h : Q (.int wvs.length (s.toks + 1)) { s with toks := s.toks + 1 + 1 }) : wpAny (model prog w) A (call (.builtin "len") [.ref W]) Q E s :=
  PyProof.Rows.len_list ⟨_, (N _ hm).1, rfl, n, rfl⟩ (by rw [List.size_toArray]; omega) (by rw [List.size_toArray]; exact h)
theorem len_spots {prog : Program} {w : World} {A : Around} {E : Value → Shared → Prop} {s : Shared} {g : Heap} {L W : Addr} {n : Nat} {vs : List Value} {xs : List Spot} {cols news : List (Addr × Obj)} {Q : Value → Shared → Prop} (N : News g L s.heap news) (hs : SpotsOf cols vs xs) (hm : (W, lstO vs n) ∈ news) (hw : vs.length ≤ 1000)
    (h : Q (.int vs.length (s.toks + 1)) { s with toks := s.toks + 1 + 1 }) : wpAny (model prog w) A (call (.builtin "len") [.ref W]) Q E s :=
  PyProof.Rows.len_list ⟨_, (N _ hm).1, rfl, n, rfl⟩ (by rw [List.size_toArray]; omega) (by rw [List.size_toArray]; exact h)
end Mine
end
section
open PySem PySem.W PyProof.Rows PySem.Spec PySem.Calls
set_option linter.unusedVariables false
namespace Mine
section
variable {prog : Program} {w : World} {A : Around} {E : Value → Shared → Prop} {s : Shared} {g : Heap} {L : Addr} {m : Str → Option Value} {news : List (Addr × Obj)}
theorem list_sort_few {a : Addr} {vs : List Value} {n : Nat} {P : PySem.Fin → Shared → Prop} (ho : s.heap.get? a = some (seqObj "list" vs.toArray n)) (h2 : vs.length < 2)
    (h : P (.done (.ret .none)) { s with heap := sortedHeap s.heap a vs vs.toArray }) : wpAny (model prog w) A (Builtin.«list.sort» ⟨[.ref a], []⟩) P E s := by
  rw [list_sort_plain]
  have ha : a < s.heap.objs.size := Heap.lt_size ho
  have hl1 : vs.length ≤ sizeLine := Nat.le_trans (Nat.le_of_lt h2) (by decide)
  refine wpAny_bind (listItems_at ho rfl ?_)
  refine wpAny_bind (listUpdate_at ho rfl ?_ (by rw [List.size_toArray]; exact hl1) (Nat.zero_le _))
  obtain ⟨e1, ho1⟩ : ∃ e1, (s.heap.update a (Obj.mapSeq fun _ => #[])).get? a = some (seqObj "list" #[] e1) := ⟨_, get?_update_seq ho (fun _ => #[])⟩
  refine wpAny_bind (seqEpoch_at ho1 rfl ?_)
  refine wpAny_bind (wpAny_newTuple ?_ (by show vs.length ≤ _; exact hl1))
  refine wpAny_bind (wpAny_newList ?_ (Nat.zero_le _))
  refine wpAny_holding ?_
  have ho6 : (((s.heap.update a (Obj.mapSeq fun _ => #[])).push (seqObj "tuple" vs.toArray 0)).push (seqObj "list" #[] 0)).get? a = some (seqObj "list" #[] e1) := by
    rw [Heap.get?_push_ne _ _ _ (by rw [size_push', Heap.size_update]; exact Nat.ne_of_lt (Nat.lt_succ_of_lt ha)), Heap.get?_push_ne _ _ _ (by rw [Heap.size_update]; exact Nat.ne_of_lt ha)]
    exact ho1
  show wpAny (model prog w) A _ P E { s with heap := ((s.heap.update a (Obj.mapSeq fun _ => #[])).push (seqObj "tuple" vs.toArray 0)).push (seqObj "list" #[] 0) }
  dsimp only
  have h2' : vs.toArray.size < 2 := by rw [List.size_toArray]; exact h2
  have hout : (arrOf (SortSt.mk' general' (vs.toArray.zip vs.toArray) #[] 7 none)).map (·.2) = vs.toArray := by
    show (vs.toArray.zip vs.toArray).map (·.2) = vs.toArray
    apply Array.toList_inj.mp
    rw [Array.toList_map, Array.toList_zip, List.map_snd_zip (Nat.le_refl _)]
  rw [if_pos h2', if_pos h2']
  refine wpAny_bind (wpAny_pure ?_)
  rw [StateT.run_pure]
  refine wpAny_bind (wpAny_pure ?_)
  dsimp only
  rw [hout]
  refine wpAny_bind (seqEpoch_at ho6 rfl ?_)
  refine wpAny_bind (listUpdate_at ho6 rfl ?_ (Nat.zero_le _) (Nat.le_trans (by rw [List.size_toArray]; exact hl1) (Nat.le_succ _)))
  simp only [bne_self_eq_false, Bool.false_eq_true, if_false]
  exact wpAny_pure h
theorem sorted_few {l : Addr} {vs : List Value} {Q : Value → Shared → Prop} (hl : s.heap.IsList l vs.toArray) (h2 : vs.length < 2)
    (h : ∀ h', (∀ b o, s.heap.get? b = some o → h'.get? b = some o) → (∃ n, h'.get? (s.heap.objs.size + 1) = some (lstO vs n)) → Q (.ref (s.heap.objs.size + 1)) { s with heap := h' }) : wpAny (model prog w) A (call (.builtin "sorted") [.ref l]) Q E s := by
  have hl1 : vs.length ≤ sizeLine := Nat.le_trans (Nat.le_of_lt h2) (by decide)
  refine Calls.call_function_entry kind_sorted plain_sorted entry_sorted (args_sorted1 _) ?_
  unfold Builtin.«sorted»
  refine wpAny_bind (m := checkCount "sorted" 1 1 _) (wpAny_pure ?_)
  refine wpAny_bind (collect_list hl ?_ hl1)
  refine wpAny_bind (wpAny_newList ?_ hl1)
  have hsz : ((s.heap.push (seqObj "list" #[] 0)).update s.heap.objs.size (Obj.mapSeq (· ++ vs.toArray))).objs.size = s.heap.objs.size + 1 := by
    rw [Heap.size_update, size_push']
  have hoL : (((s.heap.push (seqObj "list" #[] 0)).update s.heap.objs.size (Obj.mapSeq (· ++ vs.toArray))).push (seqObj "list" vs.toArray 0)).get? (s.heap.objs.size + 1) = some (seqObj "list" vs.toArray 0) := by
    rw [← hsz]; exact Heap.get?_push_size _ rfl
  have keep : ∀ b o, s.heap.get? b = some o → (((s.heap.push (seqObj "list" #[] 0)).update s.heap.objs.size (Obj.mapSeq (· ++ vs.toArray))).push (seqObj "list" vs.toArray 0)).get? b = some o := fun b o q => by
    have hlt : b < s.heap.objs.size := Heap.lt_size q
    rw [Heap.get?_push_ne _ _ _ (by rw [hsz]; exact Nat.ne_of_lt (Nat.lt_succ_of_lt hlt)), Heap.get?_update_ne _ _ _ _ (Nat.ne_of_lt hlt), Heap.get?_push_ne _ _ _ (Nat.ne_of_lt hlt)]
    exact q
  show wpAny _ _ _ _ _ { s with heap := ((s.heap.push (seqObj "list" #[] 0)).update s.heap.objs.size (Obj.mapSeq (· ++ vs.toArray))).push (seqObj "list" vs.toArray 0) }
  rw [hsz]
  generalize hH : ((s.heap.push (seqObj "list" #[] 0)).update s.heap.objs.size (Obj.mapSeq (· ++ vs.toArray))).push (seqObj "list" vs.toArray 0) = H at hoL keep
  refine wpAny_bind (wpAny_holding (wpAny_call_entry slot_list_sort ⟨_, hoL, rfl⟩ entry_list_sort (list_sort_few hoL h2 ⟨_, rfl, ?_⟩) (args_list_sort _)))
  have lt1 : s.heap.objs.size + 1 < H.objs.size := Heap.lt_size hoL
  have new : ∀ b o, b ≠ s.heap.objs.size + 1 → H.get? b = some o → (sortedHeap H (s.heap.objs.size + 1) vs vs.toArray).get? b = some o := fun b o hb q => by
    have hlt : b < H.objs.size := Heap.lt_size q
    unfold sortedHeap
    rw [Heap.get?_update_ne _ _ _ _ hb, Heap.get?_push_ne _ _ _ (by rw [size_push', Heap.size_update]; exact Nat.ne_of_lt (Nat.lt_succ_of_lt hlt)), Heap.get?_push_ne _ _ _ (by rw [Heap.size_update]; exact Nat.ne_of_lt hlt), Heap.get?_update_ne _ _ _ _ hb]
    exact q
  refine wpAny_pure ⟨_, rfl, h _ (fun b o q => new b o (Nat.ne_of_lt (Nat.lt_succ_of_lt (Heap.lt_size q))) (keep b o q)) ?_⟩
  obtain ⟨e1, ho1⟩ : ∃ e1, (H.update (s.heap.objs.size + 1) (Obj.mapSeq fun _ => #[])).get? (s.heap.objs.size + 1) = some (seqObj "list" #[] e1) := ⟨_, get?_update_seq hoL (fun _ => #[])⟩
  have ho6 : (((H.update (s.heap.objs.size + 1) (Obj.mapSeq fun _ => #[])).push (seqObj "tuple" vs.toArray 0)).push (seqObj "list" #[] 0)).get? (s.heap.objs.size + 1) = some (seqObj "list" #[] e1) := by
    rw [Heap.get?_push_ne _ _ _ (by rw [size_push', Heap.size_update]; exact Nat.ne_of_lt (Nat.lt_succ_of_lt lt1)), Heap.get?_push_ne _ _ _ (by rw [Heap.size_update]; exact Nat.ne_of_lt lt1)]
    exact ho1
  exact ⟨_, get?_update_seq ho6 fun _ => vs.toArray⟩
theorem range_self (ys : List Value) : (List.toArray (List.range ys.length)).toList.map (fun i => ys.getD i .none) = ys := by
  apply List.ext_getElem (by simp)
  intro i h1 h2
  simp [h2]
/-- pairs of a lightness and a place -/
def HasPairs (cs : List (Addr × Obj)) (ys : List Value) (f : Nat → Int) : Prop := ∀ i, i < ys.length → ∃ a t1 t2 n, ys[i]? = some (.ref a) ∧ (a, tupO [.int (f i) t1, .int (i : Int) t2] n) ∈ cs
noncomputable def ltF (f : Nat → Int) (i j : Nat) : Bool := decide (f i < f j ∨ (f i = f j ∧ i < j))
theorem ltF_strict (f : Nat → Int) : Strict (ltF f) := by
  refine ⟨fun i => ?_, fun {i j k} h1 h2 => ?_, fun {i j} h1 h2 => ?_⟩
  · unfold ltF; simp
  · unfold ltF at *
    have h1 := of_decide_eq_true h1
    have h2 := of_decide_eq_true h2
    exact decide_eq_true (by omega)
  · unfold ltF at *
    have h2 := of_decide_eq_false h2
    exact decide_eq_true (by omega)
theorem pairs_tups {h : Heap} {cs : List (Addr × Obj)} (N : ∀ p ∈ cs, h.get? p.1 = some p.2) : ∀ (ys : List Value), (∀ v ∈ ys, ∃ a l k t1 t2 n, v = .ref a ∧ (a, tupO [.int l t1, .int k t2] n) ∈ cs) → ∃ fs, KatTups h ys fs ∧ fs.length = ys.length ∧ ∀ v ∈ fs, ∃ n t, v = Value.int n t
  | [], _ => ⟨[], trivial, rfl, fun _ q => nomatch q⟩
  | v :: ys, hv => by
    obtain ⟨fs, h1, h2, h3⟩ := pairs_tups N ys fun v q => hv v (.tail _ q)
    obtain ⟨a, l, k, t1, t2, n, rfl, hm⟩ := hv v (.head _)
    refine ⟨.int l t1 :: fs, KatTups.cons (N _ hm) rfl rfl rfl h1, by rw [List.length_cons, List.length_cons, h2], fun v q => ?_⟩
    rcases List.mem_cons.mp q with rfl | q
    · exact ⟨_, _, rfl⟩
    · exact h3 v q
theorem sorted_pairs {D : Addr} {ys : List Value} {n : Nat} {cs : List (Addr × Obj)} {f : Nat → Int} {Q : Value → Shared → Prop} (F : Fr g L s.heap m) (N : News g L s.heap news) (hm : (D, lstO ys n) ∈ news) (hp : HasPairs cs ys f) (hcs : ∀ p ∈ cs, p ∈ news) (hz : ys.length ≤ 20)
    (h : ∀ D' n' h' (p : Array Nat), Fr g L h' m → News g L h' ((D', lstO (p.toList.map fun i => ys.getD i .none) n') :: news) → (∀ q ∈ news, q.1 < D') → Pm ys.length p → SortTo (ltF f) p ys.length → Q (.ref D') { s with heap := h' }) :
    wpAny (model prog w) A (call (.builtin "sorted") [.ref D]) Q E s := by
  have hl : s.heap.IsList D ys.toArray := ⟨_, (N _ hm).1, rfl, n, rfl⟩
  by_cases h2 : ys.length < 2
  · refine sorted_few hl h2 fun h' keep hn => ?_
    obtain ⟨n', hn⟩ := hn
    have hL : L < s.heap.objs.size := F.ns.lt
    have e := range_self ys
    refine h _ n' h' (List.toArray (List.range ys.length)) (F.keeps keep) ?_ (fun q hq => Nat.lt_succ_of_lt (Heap.lt_size (N q hq).1)) (List.Perm.refl _) (fun i j hij hj => by omega)
    rw [e]
    intro q hq
    rcases List.mem_cons.mp hq with rfl | hq
    · exact ⟨hn, Nat.ne_of_gt (Nat.lt_succ_of_lt hL), Heap.get?_none_of_le (Nat.le_trans F.above (Nat.le_succ_of_le (Nat.le_of_lt hL)))⟩
    · exact ⟨keep _ _ (N q hq).1, (N q hq).2⟩
  · refine kat_sorted F N hl (by omega) (by omega) fun D' e1 h' F' N' l1 => ?_
    have Nc : ∀ p ∈ cs, h'.get? p.1 = some p.2 := fun p q => (N' p (.tail _ (hcs p q))).1
    obtain ⟨fs, t, tl, ti⟩ := pairs_tups Nc ys fun v hv => by
      obtain ⟨i, hi, e⟩ := List.getElem_of_mem hv
      obtain ⟨a, t1, t2, n, q, q2⟩ := hp i hi
      rw [List.getElem?_eq_getElem hi, e] at q
      cases q
      exact ⟨a, _, _, t1, t2, n, rfl, q2⟩
    refine kat_kind (T := .type "int") t (by omega) (fun v hv => by obtain ⟨n, t, rfl⟩ := ti v hv; exact Looks.of_pure rfl) rfl ?_
    refine kasOk_wp (lt := ltF f) (n := ys.length) (fun i j C hi hj hne hC => ?_) _ (kasOk_mono (fun p q => ?_) _ (sort_ok (ltF_strict f) (by omega)))
    · obtain ⟨a, t1, t2, na, ea, ma⟩ := hp i hi
      obtain ⟨b, u1, u2, nb, eb, mb⟩ := hp j hj
      have ga : ys.getD i .none = .ref a := by rw [List.getD_eq_getElem?_getD, ea]; rfl
      have gb : ys.getD j .none = .ref b := by rw [List.getD_eq_getElem?_getD, eb]; rfl
      unfold kas_ask
      rw [ga, gb]
      refine kat_lt (Nc _ ma) rfl (Nc _ mb) rfl ?_
      refine kat_cons (wpAny_eqBool_int ?_)
      by_cases e : f i = f j
      · have : (f i == f j) = true := by simpa using e
        rw [this]
        refine kat_yes (kat_cons (wpAny_eqBool_int ?_))
        have : ((i : Int) == (j : Int)) = false := by
          rw [beq_eq_false_iff_ne]; omega
        rw [this]
        refine kat_no (kat_one _ _ ?_)
        refine lt_int ?_
        have : (decide ((i : Int) < (j : Int))) = ltF f i j := by unfold ltF; simp [e]
        rw [this]
        exact hC
      · have : (f i == f j) = false := by simpa using e
        rw [this]
        refine kat_no (oneLt_int ?_)
        have : decide (f i < f j) = ltF f i j := by unfold ltF; simp [e]
        rw [this]
        exact hC
    · refine KasFin.intro F' N' (UpdF.head fun p hp => Nat.ne_of_lt (l1 p hp)) fun h'' c F'' N'' => ?_
      exact h D' c h'' p F'' N'' l1 q.1 q.2
end
end Mine
end
section
open PySem PySem.W PyProof.Rows PySem.Spec PySem.Calls PyProof.Rows.LCg PyProof.Rows.LCt PyProof.Rows.LCp
set_option linter.unusedVariables false
namespace Mine
noncomputable def zS : Spot := ⟨0, 0, 0⟩
/-- objects that a block made, one for each item -/
noncomputable def AllO (IsO : Spot → Obj → Prop) (cs : List (Addr × Obj)) : List Value → List Spot → Prop
  | [], [] => True
  | .ref a :: vs, x :: xs => x.ok ∧ (∃ o, IsO x o ∧ (a, o) ∈ cs) ∧ AllO IsO cs vs xs
  | _, _ => False
theorem AllO.mono {IsO : Spot → Obj → Prop} {cs cs' : List (Addr × Obj)} (hs : ∀ p ∈ cs, p ∈ cs') : ∀ {vs : List Value} {xs : List Spot}, AllO IsO cs vs xs → AllO IsO cs' vs xs
  | [], [], _ => trivial
  | .ref a :: vs, x :: xs, c => by
    obtain ⟨ok, ⟨o, ho, hm⟩, r⟩ := c
    exact ⟨ok, ⟨o, ho, hs _ hm⟩, AllO.mono hs r⟩
theorem AllO.append {IsO : Spot → Obj → Prop} {cs : List (Addr × Obj)} : ∀ {vs vs' : List Value} {xs xs' : List Spot}, AllO IsO cs vs xs → AllO IsO cs vs' xs' → AllO IsO cs (vs ++ vs') (xs ++ xs')
  | [], _, [], _, _, b => b
  | .ref a :: vs, _, x :: xs, _, c, b => ⟨c.1, c.2.1, AllO.append c.2.2 b⟩
theorem AllO.spots {cs : List (Addr × Obj)} : ∀ {vs : List Value} {xs : List Spot}, AllO (fun y o => ∃ t1 t2 t3 n, o = tupO [.int y.over.h t1, .int y.over.l t2, .int y.over.s t3] n) cs vs xs → SpotsOf cs vs (xs.map Spot.over)
  | [], [], _ => trivial
  | .ref a :: vs, x :: xs, c => by
    obtain ⟨ok, ⟨o, ⟨t1, t2, t3, n, rfl⟩, hm⟩, r⟩ := c
    exact ⟨Spot.over_ok ok, ⟨t1, t2, t3, n, hm⟩, AllO.spots r⟩
theorem AllO.cols {cs : List (Addr × Obj)} : ∀ {vs : List Value} {xs : List Spot}, AllO (fun y o => ∃ t1 t2 t3 n, o = tupO [.int y.p0 t1, .int y.p1 t2, .int y.p2 t3] n) cs vs xs → ColsOf cs vs xs
  | [], [], _ => trivial
  | .ref a :: vs, x :: xs, c => by
    obtain ⟨ok, ⟨o, ⟨t1, t2, t3, n, rfl⟩, hm⟩, r⟩ := c
    exact ⟨ok, ⟨t1, t2, t3, n, hm⟩, AllO.cols r⟩
section
variable {prog : Program} {w : World} {A : Around} {s : Shared} {h₀ : Heap} {L ax : Addr} {m : Str → Option Value} {env : Env} {elt : PySem.Expr} {x x₂ : Str} {scope : Scope} {cl : List (Str × Addr)} {S : List (Addr × Obj) → Prop} {P : Nat → Value → Prop} {Fin : List Value → List (Addr × Obj) → Prop} {hv : List Value} {xs : List Spot} {cols nw0 : List (Addr × Obj)} {n : Nat}
theorem restP_all (J : Nat → List Value → List (Addr × Obj) → Prop)
    (turn : ∀ i v ys news, P i v → i < n → J i ys news → ∃ (t : Addr) (ot : Obj) (v₁ v₂ : Value) (nt : Nat), v = .ref t ∧ (t, ot) ∈ news ∧ ot.cls = .type "tuple" ∧ ot.data = .seq #[v₁, v₂] nt ∧
      ∀ I oI C oC D m₂ h tk (E' : Value → Shared → Prop), NsObj oC m₂ → m₂ x = some v₁ → m₂ x₂ = some v₂ → Fr h₀ L h m → News h₀ L h ((I, oI) :: (C, oC) :: (D, lst ys) :: news) → Off3 I C D news → ((@Ne Nat I C) ∧ (@Ne Nat I D) ∧ (@Ne Nat C D)) →
      wpAny (model prog w) A (eval elt (compEnvC scope cl C env)) (CompEnd h₀ L m { s with heap := h, toks := tk } I oI C oC D (lst ys) S (fun y news' => J (i + 1) (ys ++ [y]) news')) E' { s with heap := h, toks := tk })
    (fin : ∀ ys news, J n ys news → Fin ys news) : ∀ (k i : Nat) (ys : List Value) (news : List (Addr × Obj)), i + k = n → J i ys news → CompRestP prog w A h₀ L m env elt x x₂ scope cl s S P Fin k i ys news
  | 0, i, ys, news, e, j => by
    have : i = n := by omega
    subst this
    exact fin _ _ j
  | k + 1, i, ys, news, e, j => by
    refine CompRestP.succ fun v hP => ?_
    obtain ⟨t, ot, v₁, v₂, nt, q1, q2, q3, q4, go⟩ := turn i v ys news hP (by omega) j
    refine ⟨t, ot, v₁, v₂, nt, q1, q2, q3, q4, fun I oI C oC D m₂ h tk E' hC hx hx2 F N off ne => ?_⟩
    exact wpAny_mono (go I oI C oC D m₂ h tk E' hC hx hx2 F N off ne) (fun y s'' h'' => CompEnd.mono h'' fun nw q => restP_all J turn fin k (i + 1) _ _ (by omega) q) fun _ _ q => q
theorem pairs_comp (hsp : SpotsOf cols hv xs) (hin : ∀ p ∈ cols, p ∈ nw0)
    (turn : ∀ (i : Nat) (ti : Tok) (t : Addr) (y : Spot) (t1 t2 t3 : Tok) (n : Nat) (ys : List Value) (rest : List (Addr × Obj)), i < hv.length → hv[i]? = some (.ref t) → (∀ p ∈ nw0, p ∈ rest) → (t, tupO [.int y.h t1, .int y.l t2, .int y.s t3] n) ∈ rest →
      ∀ I oI C oC D m₂ h tk (E' : Value → Shared → Prop), NsObj oC m₂ → m₂ x = some (.int (0 + (i : Int)) ti) → Fr h₀ L h m → News h₀ L h ((I, oI) :: (C, oC) :: (D, lst ys) :: rest) →
      wpAny (model prog w) A (eval elt (compEnvC scope cl C env)) (fun v s'' => ∃ h' tk' T u1 u2 k, s'' = { s with heap := h', toks := tk' } ∧ v = .ref T ∧ Fr h₀ L h' m ∧ News h₀ L h' ((T, tupO [.int y.l u1, .int (0 + (i : Int)) u2] k) :: (I, oI) :: (C, oC) :: (D, lst ys) :: rest) ∧ (@Ne Nat T I) ∧ (@Ne Nat T C) ∧ (@Ne Nat T D)) E' { s with heap := h, toks := tk })
    (fin : ∀ ys cs, ys.length = hv.length → HasPairs cs ys (fun i => (xs.getD i zS).l) → Fin ys (cs ++ nw0)) :
    CompRest prog w A h₀ L m env elt x scope cl s (fun _ => True) (fun i v => ∃ t, v = .int (0 + (i : Int)) t) Fin hv.length 0 [] nw0 := by
  refine rest_all (n := hv.length) (fun i ys nw => ys.length = i ∧ ∃ cs, nw = cs ++ nw0 ∧ HasPairs cs ys (fun i => (xs.getD i zS).l)) ?_ (fun ys nw j => ?_) _ _ _ _ (by omega) ⟨rfl, [], rfl, fun i hi => absurd hi (Nat.not_lt_zero _)⟩
  · rintro i v ys _ ⟨ti, rfl⟩ hi ⟨hl, cs, rfl, J⟩ I oI C oC D m₂ h tk E' hC hx F N off ne
    obtain ⟨y, t, t1, t2, t3, n, hy, ok, e1, hm⟩ := hsp.get i _ (List.getElem?_eq_getElem hi)
    refine wpAny_mono (turn i ti t y t1 t2 t3 n ys (cs ++ nw0) hi (by rw [← e1]; exact List.getElem?_eq_getElem hi) (fun p hp => List.mem_append_right _ hp) (List.mem_append_right _ (hin _ hm)) I oI C oC D m₂ h tk E' hC hx F N) (fun v s'' q => ?_) fun _ _ q => q
    obtain ⟨h2, tk2, T, u1, u2, k, rfl, rfl, F2, N2, r1, r2, r3⟩ := q
    refine CompEnd.intro F2 N2 ((T, _) :: (cs ++ nw0)) sub_rot ⟨⟨r1, r2, r3⟩, off⟩ trivial ⟨by rw [List.length_append, hl]; rfl, (T, _) :: cs, rfl, fun j hj => ?_⟩
    rw [List.length_append, hl] at hj
    by_cases hji : j < i
    · obtain ⟨a, v1, v2, n', q1, q2⟩ := J j (by omega)
      exact ⟨a, v1, v2, n', by rw [List.getElem?_append_left (by omega)]; exact q1, .tail _ q2⟩
    · have : j = i := by simp at hj; omega
      subst this
      refine ⟨T, u1, u2, k, by rw [List.getElem?_append_right (by omega), hl, Nat.sub_self]; rfl, ?_⟩
      have e2 : xs.getD j zS = y := by rw [List.getD_eq_getElem?_getD, hy]; rfl
      have e3 : (0 : Int) + (j : Int) = (j : Int) := Int.zero_add _
      show (T, tupO [.int (xs.getD j zS).l u1, .int (j : Int) u2] k) ∈ _
      rw [e2, ← e3]
      rw [Int.zero_add, e3] 
      exact .head _
  · obtain ⟨hl, cs, rfl, J⟩ := j
    exact fin ys cs hl J
theorem due_comp {p : Array Nat} {ys : List Value} {cs : List (Addr × Obj)} {f : Nat → Int} (hP : Pm ys.length p) (hp : HasPairs cs ys f) (hcs : ∀ q ∈ cs, q ∈ nw0) (hsp : SpotsOf cols hv xs) (hlen : ys.length = hv.length) (hin : ∀ q ∈ cols, q ∈ nw0) (hS : S nw0)
    (turn : ∀ (k : Nat) (t : Addr) (u1 u2 : Tok) (zs : List Value), k < hv.length → hv[k]? = some (.ref t) → ∀ I oI C oC D m₂ h tk (E' : Value → Shared → Prop), NsObj oC m₂ → m₂ x = some (.int (f k) u1) → m₂ x₂ = some (.int (k : Int) u2) → Fr h₀ L h m → News h₀ L h ((I, oI) :: (C, oC) :: (D, lst zs) :: nw0) →
      wpAny (model prog w) A (eval elt (compEnvC scope cl C env)) (fun v s'' => ∃ h' tk', s'' = { s with heap := h', toks := tk' } ∧ v = .ref t ∧ Fr h₀ L h' m ∧ News h₀ L h' ((I, oI) :: (C, oC) :: (D, lst zs) :: nw0)) E' { s with heap := h, toks := tk })
    (fin : ∀ zs, SpotsOf cols zs (p.toList.map fun i => xs.getD i zS) → Fin zs nw0) :
    CompRestP prog w A h₀ L m env elt x x₂ scope cl s S (fun i v => (p.toList.map fun i => ys.getD i Value.none).toArray[i]? = some v) Fin (p.toList.map fun i => ys.getD i Value.none).toArray.size 0 [] nw0 := by
  have hps := hP.size
  have hsz : (p.toList.map fun i => ys.getD i Value.none).toArray.size = ys.length := by rw [List.size_toArray, List.length_map, Array.length_toList, hps]
  refine restP_all (n := (p.toList.map fun i => ys.getD i Value.none).toArray.size) (fun i zs nw => nw = nw0 ∧ SpotsOf cols zs ((p.toList.take i).map fun i => xs.getD i zS)) ?_ (fun zs nw j => ?_) _ _ _ _ (by omega) ⟨rfl, trivial⟩
  · rintro i v zs _ hv' hi ⟨rfl, J⟩
    have hi' : i < ys.length := by rw [hsz] at hi; exact hi
    have hpi := hP.lt hi'
    obtain ⟨a, t1, t2, n, e1, e2⟩ := hp _ hpi
    have epi : p.toList[i]? = some (p.getD i 0) := by
      rw [List.getElem?_eq_getElem (by rw [Array.length_toList, hps]; exact hi')]
      simp [Array.getD, hps, hi']
    have ev : v = .ref a := by
      have : (p.toList.map fun i => ys.getD i Value.none)[i]? = some v := by simpa using hv'
      rw [List.getElem?_map, epi, Option.map_some, List.getD_eq_getElem?_getD, e1] at this
      exact (Option.some.inj this).symm
    subst ev
    obtain ⟨y, t, w1, w2, w3, n2, hy, ok, e3, hm⟩ := hsp.get (p.getD i 0) _ (List.getElem?_eq_getElem (hlen ▸ hpi))
    refine ⟨a, _, _, _, n, rfl, hcs _ e2, rfl, rfl, fun I oI C oC D m₂ h tk E' hC hx hx2 F N off ne => ?_⟩
    refine wpAny_mono (turn (p.getD i 0) t t1 t2 zs (hlen ▸ hpi) (by rw [← e3]; exact List.getElem?_eq_getElem (hlen ▸ hpi)) I oI C oC D m₂ h tk E' hC hx hx2 F N) (fun v s'' q => ?_) fun _ _ q => q
    obtain ⟨h2, tk2, rfl, rfl, F2, N2⟩ := q
    refine ⟨h2, tk2, _, rfl, F2, N2, off, hS, rfl, ?_⟩
    rw [List.take_add_one, epi]
    show SpotsOf cols _ (List.map _ (p.toList.take i ++ [p.getD i 0]))
    rw [List.map_append]
    have e2 : xs.getD (p.getD i 0) zS = y := by rw [List.getD_eq_getElem?_getD, hy]; rfl
    refine SpotsOf.append J ⟨?_, ⟨w1, w2, w3, n2, ?_⟩, trivial⟩
    · show (xs.getD (p.getD i 0) zS).ok
      rw [e2]; exact ok
    · show (t, tupO [.int (xs.getD (p.getD i 0) zS).h w1, .int (xs.getD (p.getD i 0) zS).l w2, .int (xs.getD (p.getD i 0) zS).s w3] n2) ∈ cols
      rw [e2]; exact hm
  · obtain ⟨rfl, J⟩ := j
    have e : p.toList.take (p.toList.map fun i => ys.getD i Value.none).toArray.size = p.toList := by rw [hsz, ← hps, ← Array.length_toList]; exact List.take_length
    rw [e] at J
    exact fin zs J
theorem map_comp (IsO : Spot → Obj → Prop) (z : Addr) {due : List Value} {zs : List Spot} (hsp : SpotsOf cols due zs) (hin : ∀ p ∈ cols, p ∈ nw0) (hS : ∀ cs : List (Addr × Obj), S (cs ++ nw0))
    (turn : ∀ (t : Addr) (y : Spot) (t1 t2 t3 : Tok) (n : Nat) (ys : List Value) (rest : List (Addr × Obj)), y.ok → (∀ p ∈ nw0, p ∈ rest) → (t, tupO [.int y.h t1, .int y.l t2, .int y.s t3] n) ∈ rest →
      ∀ I oI C oC D m₂ h tk (E' : Value → Shared → Prop), NsObj oC m₂ → m₂ x = some (.ref t) → Fr h₀ L h m → News h₀ L h ((I, oI) :: (C, oC) :: (D, lst ys) :: rest) →
      wpAny (model prog w) A (eval elt (compEnvC scope cl C env)) (fun v s'' => ∃ h' tk' T o, s'' = { s with heap := h', toks := tk' } ∧ v = .ref T ∧ IsO y o ∧ Fr h₀ L h' m ∧ News h₀ L h' ((T, o) :: (I, oI) :: (C, oC) :: (D, lst ys) :: rest) ∧ (@Ne Nat T I) ∧ (@Ne Nat T C) ∧ (@Ne Nat T D) ∧ (@Ne Nat T z)) E' { s with heap := h, toks := tk })
    (fin : ∀ ys cs, AllO IsO cs ys zs → (∀ p ∈ cs, p.1 ≠ z) → Fin ys (cs ++ nw0)) :
    CompRest prog w A h₀ L m env elt x scope cl s S (fun i v => due.toArray[i]? = some v) Fin due.toArray.size 0 [] nw0 := by
  refine rest_all (n := due.toArray.size) (fun i ys nw => ∃ cs, nw = cs ++ nw0 ∧ AllO IsO cs ys (zs.take i) ∧ ∀ p ∈ cs, p.1 ≠ z) ?_ (fun ys nw j => ?_) _ _ _ _ (by omega) ⟨[], rfl, trivial, List.forall_mem_nil _⟩
  · rintro i v ys _ hv' hi ⟨cs, rfl, J, J2⟩ I oI C oC D m₂ h tk E' hC hx F N off ne
    obtain ⟨y, t, t1, t2, t3, n, hy, ok, rfl, hm⟩ := hsp.get i v (by simpa using hv')
    refine wpAny_mono (turn t y t1 t2 t3 n ys (cs ++ nw0) ok (fun p hp => List.mem_append_right _ hp) (List.mem_append_right _ (hin _ hm)) I oI C oC D m₂ h tk E' hC hx F N) (fun v s'' q => ?_) fun _ _ q => q
    obtain ⟨h2, tk2, T, o, rfl, rfl, ho, F2, N2, r1, r2, r3, r4⟩ := q
    refine CompEnd.intro F2 N2 ((T, o) :: (cs ++ nw0)) sub_rot ⟨⟨r1, r2, r3⟩, off⟩ (hS ((T, o) :: cs)) ⟨(T, o) :: cs, rfl, ?_, List.forall_mem_cons.mpr ⟨r4, J2⟩⟩
    rw [List.take_add_one, hy]
    exact AllO.append (AllO.mono (fun p hp => .tail _ hp) J) ⟨ok, ⟨o, ho, .head _⟩, trivial⟩
  · obtain ⟨cs, rfl, J, J2⟩ := j
    have e : zs.take due.toArray.size = zs := by rw [List.size_toArray, hsp.length]; exact List.take_length
    rw [e] at J
    exact fin ys cs J J2
end
theorem item_at {prog : Program} {w : World} {A : Around} {E : Value → Shared → Prop} {s : Shared} {g : Heap} {L W : Addr} {nW : Nat} {wvs : List Value} {value slice : PySem.Expr} {i : Int} {u : Tok} {v : Value} {news : List (Addr × Obj)} {Q : Value → Shared → Prop} (N : News g L s.heap news) (hl : (W, lstO wvs nW) ∈ news) (h0 : 0 ≤ i) (h4 : i < 1000) (hv : wvs[i.toNat]? = some v) (h : Q v s)
    (hs : subscripted slice false (.ref W) (.int i u) = operate [.ref W, .int i u] (getItem (.ref W) (.int i u)) := by with_unfolding_all rfl) :
    wpAny (model prog w) A (subscriptTail value slice (.ref W) (.int i u)) Q E s :=
  item_litK (vs := wvs) ⟨_, (N _ hl).1, rfl, nW, rfl⟩ h0 (by omega) hv h hs
theorem sub_due {α : Type} {D a b : α} {cs r : List α} : ∀ p ∈ D :: r, p ∈ D :: a :: b :: (cs ++ r) := by
  intro p hp
  rcases List.mem_cons.mp hp with rfl | hp
  · exact .head _
  · exact .tail _ (.tail _ (.tail _ (List.mem_append_right _ hp)))
theorem news_sub {g h : Heap} {L : Addr} {l l' : List (Addr × Obj)} (N : News g L h l) (hs : ∀ p ∈ l', p ∈ l) : News g L h l' := fun p hp => N p (hs p hp)
theorem sub_2 {α : Type} {T a b : α} {r : List α} : ∀ p ∈ T :: r, p ∈ T :: a :: b :: r := by
  intro p hp
  rcases List.mem_cons.mp hp with rfl | hp
  · exact .head _
  · exact .tail _ (.tail _ (.tail _ hp))
theorem sub_rev {α : Type} {D R a : α} {cs r : List α} : ∀ p ∈ D :: (cs ++ r), p ∈ D :: (cs ++ R :: a :: r) := by
  intro p hp
  rcases List.mem_cons.mp hp with rfl | hp
  · exact .head _
  · rcases List.mem_append.mp hp with hp | hp
    · exact .tail _ (List.mem_append_left _ hp)
    · exact .tail _ (List.mem_append_right _ (.tail _ (.tail _ hp)))
theorem due_merge {M : Model} {A : Around} {E : Value → Shared → Prop} {g : Heap} {L D : Addr} {st : Shared} {Q : Flow → Shared → Prop} {stmt : Stmt} {env : Env} {o : Obj} {BASE cols : List (Addr × Obj)} (cl : List (Str × Value)) (zs : List Spot) (N : News g L st.heap ((D, o) :: BASE))
    (h1 : wpAny M A (exec stmt env) (fun f s' => ∃ h' tk' D' nD vs cs m', f = .next ∧ s' = { st with heap := h', toks := tk' } ∧ Told ((Str.ofString "due", Value.ref D') :: cl) m' ∧ Fr g L h' m' ∧ News g L h' ((D', lstO vs nD) :: (cs ++ BASE)) ∧ SpotsOf (cs ++ cols) vs zs ∧ ∀ p ∈ cs, p.1 ≠ 101) E st)
    (h2 : ∀ h' tk' D' nD vs cs m', Told ((Str.ofString "due", Value.ref D') :: cl) m' → Fr g L h' m' → News g L h' ((D', lstO vs nD) :: (cs ++ BASE)) → SpotsOf (cs ++ cols) vs zs → (∀ p ∈ cs, p.1 ≠ 101) → Q .next { st with heap := h', toks := tk' }) : wpAny M A (exec stmt env) Q E st :=
  wpAny_mono h1 (fun f s' q => by
    obtain ⟨h', tk', D', nD, vs, cs, m', rfl, rfl, q1, q2, q3, q4, q5⟩ := q
    exact h2 h' tk' D' nD vs cs m' q1 q2 q3 q4 q5) fun _ _ q => q
/-- the row that is due, of what is held in order of lightness -/
noncomputable def turned (odd : Bool) (srt : List Spot) : List Spot := if odd then srt.reverse.map Spot.over else srt
end Mine
end
section
open PySem PySem.W PyProof.Rows PySem.Spec PySem.Calls
set_option linter.unusedVariables false
namespace Mine
/-- a word that is spelt out of plain signs -/
def Good (l : List Nat) : Prop := l ≠ [] ∧ ∀ c ∈ l, isWs c = false ∧ c ≠ 34 ∧ c ≠ 92
theorem tokg_ws : ∀ (g r : List Nat), (∀ c ∈ g, isWs c = true) → tokW (g ++ r) = (tokW r).map fun p => (p.1, p.2 + g.length)
  | [], r, _ => by
    cases h : tokW r <;> simp [h]
  | c :: g, r, hg => by
    have hc := hg c (.head _)
    have ih := tokg_ws g r fun c q => hg c (.tail _ q)
    show tokW (c :: (g ++ r)) = _
    rw [tokW.eq_def]
    simp only [hc, if_true, ih]
    cases h : tokW r <;> simp [h]
    omega
theorem plain_plain : ∀ (l : List Nat) (w : Nat) (r : List Nat), (∀ c ∈ l, isWs c = false ∧ c ≠ 34 ∧ c ≠ 92) → isWs w = true → plainW (l ++ w :: r) = some (l, l.length + 1)
  | [], w, r, _, hw => by
    show plainW (w :: r) = _
    rw [plainW.eq_def]; simp [hw]
  | c :: l, w, r, hl, hw => by
    have hc := hl c (.head _)
    have ih := plain_plain l w r (fun c q => hl c (.tail _ q)) hw
    show plainW (c :: (l ++ w :: r)) = _
    rw [plainW.eq_def]
    simp [hc.1, hc.2.2, ih]
theorem plaing_esc : ∀ (l : List Nat) (w : Nat) (r : List Nat), isWs w = true → plainW (l.flatMap (fun c => [92, c]) ++ w :: r) = some (l, 2 * l.length + 1)
  | [], w, r, hw => by
    show plainW (w :: r) = _
    rw [plainW.eq_def]; simp [hw]
  | c :: l, w, r, hw => by
    have ih := plaing_esc l w r hw
    show plainW (92 :: c :: (l.flatMap (fun c => [92, c]) ++ w :: r)) = _
    have h92 : isWs 92 = false := by decide
    rw [plainW.eq_def]
    simp [h92, ih]
    omega
theorem quot_plain : ∀ (l r : List Nat), (∀ c ∈ l, isWs c = false ∧ c ≠ 34 ∧ c ≠ 92) → quotW (l ++ 34 :: r) = some (l, l.length + 1)
  | [], r, _ => by
    show quotW (34 :: r) = _
    rw [quotW.eq_def]; simp
  | c :: l, r, hl => by
    have hc := hl c (.head _)
    have ih := quot_plain l r (fun c q => hl c (.tail _ q))
    show quotW (c :: (l ++ 34 :: r)) = _
    rw [quotW.eq_def]
    simp [hc.2.1, hc.2.2, ih]
theorem gapP_one (k : Int) : ∃ w, gapP k = [w] ∧ isWs w = true := by
  unfold gapP
  split
  · exact ⟨_, rfl, by decide⟩
  split
  · exact ⟨_, rfl, by decide⟩
  split
  · exact ⟨_, rfl, by decide⟩
  · exact ⟨_, rfl, by decide⟩
theorem gapQ_ws (k : Int) : ∀ c ∈ gapQ k, isWs c = true := by
  unfold gapQ
  split
  · exact fun _ h => nomatch h
  split
  · exact fun c h => by rw [List.mem_singleton.mp h]; decide
  split
  · exact fun c h => by rw [List.mem_singleton.mp h]; decide
  · exact fun c h => by rw [List.mem_singleton.mp h]; decide
theorem tok_enc {l : List Nat} (hl : Good l) (e : Int) (r : List Nat) : ∃ j g', tokW (encW l e ++ r) = some (l, j) ∧ (encW l e ++ r).drop j = g' ++ r ∧ (∀ c ∈ g', isWs c = true) ∧ j ≤ (encW l e ++ r).length := by
  obtain ⟨hne, hg⟩ := hl
  unfold encW
  split
  · refine ⟨l.length + 2, gapQ ((e.fdiv 3).fmod 4), ?_, ?_, gapQ_ws _, ?_⟩
    · have h34 : isWs 34 = false := by decide
      have q := quot_plain l (gapQ ((e.fdiv 3).fmod 4) ++ r) hg
      have e1 : (34 :: l ++ 34 :: gapQ ((e.fdiv 3).fmod 4)) ++ r = 34 :: (l ++ 34 :: (gapQ ((e.fdiv 3).fmod 4) ++ r)) := by simp
      rw [e1, tokW.eq_def]
      simp [h34, q]
    · have e1 : (34 :: l ++ 34 :: gapQ ((e.fdiv 3).fmod 4)) ++ r = (34 :: l ++ [34]) ++ (gapQ ((e.fdiv 3).fmod 4) ++ r) := by simp
      rw [e1]
      exact List.drop_left' (by simp)
    · simp
  obtain ⟨w, ew, hw⟩ := gapP_one ((e.fdiv 3).fmod 4)
  rw [ew]
  obtain ⟨c, l', rfl⟩ : ∃ c l', l = c :: l' := by
    cases l with
    | nil => exact absurd rfl hne
    | cons c l' => exact ⟨c, l', rfl⟩
  have hc := hg c (.head _)
  split
  · refine ⟨2 * l'.length + 3, [], ?_, ?_, (fun _ h => nomatch h), ?_⟩
    · have h92 : isWs 92 = false := by decide
      have q := plaing_esc l' w r hw
      have e1 : ((c :: l').flatMap (fun c => [92, c]) ++ [w]) ++ r = 92 :: c :: (l'.flatMap (fun c => [92, c]) ++ w :: r) := by simp
      rw [e1, tokW.eq_def]
      simp [h92, q]
    · have hf : ∀ l : List Nat, (l.flatMap fun c => [92, c]).length = 2 * l.length := fun l => by
        induction l with
        | nil => rfl
        | cons c r ih => rw [List.flatMap_cons, List.length_append, ih]; show 2 + _ = 2 * (r.length + 1); omega
      exact List.drop_left' (by rw [List.length_append, hf, List.length_cons, List.length_singleton]; omega)
    · have hf : ∀ l : List Nat, (l.flatMap fun c => [92, c]).length = 2 * l.length := fun l => by
        induction l with
        | nil => rfl
        | cons c r ih => rw [List.flatMap_cons, List.length_append, ih]; show 2 + _ = 2 * (r.length + 1); omega
      rw [List.length_append, List.length_append, hf, List.length_cons, List.length_singleton]; omega
  · refine ⟨l'.length + 2, [], ?_, ?_, (fun _ h => nomatch h), ?_⟩
    · have q := plain_plain l' w r (fun c q => hg c (.tail _ q)) hw
      have e1 : ((c :: l') ++ [w]) ++ r = c :: (l' ++ w :: r) := by simp
      rw [e1, tokW.eq_def]
      simp [hc.1, hc.2.1, hc.2.2, q]
    · exact List.drop_left' (by simp)
    · simp
theorem reads_all {cs : List Nat} : ∀ (ps : List (List Nat × Int)) (k : Nat) (g : List Nat), (∀ c ∈ g, isWs c = true) → cs.drop k = g ++ ps.flatMap (fun p => encW p.1 p.2) → k ≤ cs.length → (∀ p ∈ ps, Good p.1) → Reads cs k (ps.map Prod.fst)
  | [], k, g, hg, hd, hk, _ => by
    have q := tokg_ws g [] hg
    have hd : cs.drop k = g ++ [] := hd
    rw [← hd] at q
    have q2 : tokW [] = some ([], 1) := by rw [tokW.eq_def]
    rw [q2] at q
    have hl := congrArg List.length hd
    rw [List.length_drop, List.append_nil] at hl
    exact Reads.done (j := 1 + g.length) q (by omega)
  | (l, e) :: ps, k, g, hg, hd, hk, hgood => by
    have hd : cs.drop k = g ++ (encW l e ++ ps.flatMap fun p => encW p.1 p.2) := by rw [hd]; rfl
    obtain ⟨j, g', q1, q2, q3, q4⟩ := tok_enc (hgood (l, e) (.head _)) e (ps.flatMap fun p => encW p.1 p.2)
    have q := tokg_ws g (encW l e ++ ps.flatMap fun p => encW p.1 p.2) hg
    rw [q1, ← hd] at q
    have hl := congrArg List.length hd
    rw [List.length_drop, List.length_append] at hl
    have q4 : j ≤ (encW l e ++ ps.flatMap fun p => encW p.1 p.2).length := q4
    refine Reads.more (j := j + g.length) q (by omega) (reads_all ps (k + (j + g.length)) g' q3 ?_ (by omega) fun p hp => hgood p (.tail _ hp))
    rw [← List.drop_drop, hd, Nat.add_comm j, ← List.drop_drop, List.drop_left]
    exact q2
theorem digs_good {n : Int} (h0 : 0 ≤ n) : Good (digs n) := by
  obtain ⟨h1, h2⟩ := digs_range h0
  refine ⟨h1, fun c hc => ?_⟩
  obtain ⟨a, b⟩ := h2 c hc
  refine ⟨?_, by omega, by omega⟩
  unfold isWs
  have e1 : (c == 10) = false := by rw [beq_eq_false_iff_ne]; omega
  have e2 : (c == 9) = false := by rw [beq_eq_false_iff_ne]; omega
  have e3 : (c == 13) = false := by rw [beq_eq_false_iff_ne]; omega
  have e4 : (c == 32) = false := by rw [beq_eq_false_iff_ne]; omega
  rw [e1, e2, e3, e4]; rfl
theorem name_good (d : Deed) : Good d.name := by
  have k : ∀ l : List Nat, (l ≠ [] ∧ l.all (fun c => !isWs c && c != 34 && c != 92) = true) → Good l := fun l h => ⟨h.1, fun c hc => by
    have := List.all_eq_true.mp h.2 c hc
    simp at this
    exact ⟨this.1.1, this.1.2, this.2⟩⟩
  cases d with
  | lay x g => exact k (Str.ofString "lay").cps.toList (by decide +kernel)
  | neg => exact k (Str.ofString "negative").cps.toList (by decide +kernel)
  | drop a b => exact k (Str.ofString "drop").cps.toList (by decide +kernel)
theorem words_good {d : Deed} (ok : d.ok) : ∀ l ∈ d.words, Good l := by
  intro l hl
  rcases List.mem_cons.mp hl with rfl | hl
  · exact name_good d
  · obtain ⟨n, hn, rfl⟩ := List.mem_map.mp hl
    exact digs_good (args_range ok n hn).1
/-- words with the draws that spell them -/
noncomputable def spelt : List (List Nat) → Int → List (List Nat × Int)
  | [], _ => []
  | l :: ls, e => (l, e) :: spelt ls (e + 1)
theorem spelt_fst : ∀ (ls : List (List Nat)) (e : Int), (spelt ls e).map Prod.fst = ls
  | [], _ => rfl
  | l :: ls, e => by show l :: (spelt ls (e + 1)).map Prod.fst = _; rw [spelt_fst ls (e + 1)]
theorem spelt_enc : ∀ (ls : List (List Nat)) (e : Int), (spelt ls e).flatMap (fun p => encW p.1 p.2) = encAll ls e
  | [], _ => rfl
  | l :: ls, e => by show encW l e ++ (spelt ls (e + 1)).flatMap _ = _; rw [spelt_enc ls (e + 1)]; rfl
theorem page_reads (ds : List Int) : Reads (pageOf ds) 0 ((ds.map deedOf).flatMap Deed.words) := by
  have h := reads_all (cs := pageOf ds) (ds.flatMap fun d => spelt (deedOf d).words (d.fdiv 78336)) 0 [] (fun _ h => nomatch h) ?_ (Nat.zero_le _) ?_
  · rw [List.map_flatMap] at h
    rw [List.flatMap_map]
    have e : (fun a => List.map Prod.fst (spelt (deedOf a).words (a.fdiv 78336))) = fun a => (deedOf a).words := funext fun a => spelt_fst _ _
    rw [e] at h
    exact h
  · show pageOf ds = _
    rw [List.nil_append, List.flatMap_assoc]
    have e : (fun d => (spelt (deedOf d).words (d.fdiv 78336)).flatMap fun p => encW p.1 p.2) = fun d => encAll (deedOf d).words (d.fdiv 78336) := funext fun d => spelt_enc _ _
    rw [e]; rfl
  · intro p hp
    obtain ⟨d, _, hp⟩ := List.mem_flatMap.mp hp
    have : p.1 ∈ (spelt (deedOf d).words (d.fdiv 78336)).map Prod.fst := List.mem_map_of_mem hp
    rw [spelt_fst] at this
    exact words_good (deed_ok d) _ this
end Mine
end
section
open PySem PySem.W PyProof.Rows PySem.Spec PySem.Calls
set_option linter.unusedVariables false
set_option linter.unusedSimpArgs false
namespace Mine
/-- in order of lightness, of like ones as they came -/
noncomputable def isort (xs : List Spot) : List Spot := xs.foldl (fun st x => layR x st) []
theorem layR_perm (x : Spot) (xs : List Spot) : (layR x xs).Perm (x :: xs) := by
  unfold layR
  have e := List.takeWhile_append_dropWhile (p := fun y : Spot => decide (y.l ≤ x.l)) (l := xs)
  exact List.perm_middle.trans (List.Perm.cons x (by rw [e]))
theorem isort_snoc (xs : List Spot) (x : Spot) : isort (xs ++ [x]) = layR x (isort xs) := by unfold isort; rw [List.foldl_append]; rfl
theorem isort_ord (xs : List Spot) : Ord (isort xs) := by
  suffices h : ∀ (l st : List Spot), Ord st → Ord (l.foldl (fun st x => layR x st) st) from h xs [] List.Pairwise.nil
  intro l
  induction l with
  | nil => intro st h; exact h
  | cons x l ih => intro st h; exact ih _ (ord_layR h)
/-- a list in order cut by a bound -/
theorem take_filter {xs : List Spot} (h : Ord xs) (c : Int) : xs.takeWhile (fun y => decide (y.l ≤ c)) = xs.filter (fun y => decide (y.l ≤ c)) ∧ xs.dropWhile (fun y => decide (y.l ≤ c)) = xs.filter (fun y => !decide (y.l ≤ c)) := by
  induction xs with
  | nil => exact ⟨rfl, rfl⟩
  | cons x xs ih =>
    have hx := List.pairwise_cons.mp h
    by_cases q : x.l ≤ c
    · obtain ⟨a, b⟩ := ih hx.2
      simp [List.takeWhile_cons, List.dropWhile_cons, List.filter_cons, q, a, b]
    · have e1 : xs.filter (fun y => decide (y.l ≤ c)) = [] := List.filter_eq_nil_iff.mpr fun y hy => by
        have := hx.1 y hy
        simp; omega
      have e2 : xs.filter (fun y => !decide (y.l ≤ c)) = xs := List.filter_eq_self.mpr fun y hy => by
        have := hx.1 y hy
        simp; omega
      simp [List.takeWhile_cons, List.dropWhile_cons, List.filter_cons, q, e1, e2]
theorem layR_filter {xs : List Spot} (h : Ord xs) (x : Spot) : layR x xs = xs.filter (fun y => decide (y.l ≤ x.l)) ++ x :: xs.filter (fun y => !decide (y.l ≤ x.l)) := by
  unfold layR
  rw [(take_filter h x.l).1, (take_filter h x.l).2]
theorem filter_comm {xs : List Spot} (p q : Spot → Bool) : (xs.filter p).filter q = (xs.filter q).filter p := by
  rw [List.filter_filter, List.filter_filter]
  congr 1
  funext y
  exact Bool.and_comm _ _
theorem isort_filter (p : Spot → Bool) (xs : List Spot) : isort (xs.filter p) = (isort xs).filter p := by
  suffices h : ∀ n (l : List Spot), l.length = n → isort (l.filter p) = (isort l).filter p from h _ xs rfl
  intro n
  induction n with
  | zero => intro l hl; rw [List.length_eq_zero_iff.mp hl]; rfl
  | succ n ih =>
    intro l hl
    obtain ⟨l', x, rfl⟩ : ∃ l' x, l = l' ++ [x] := ⟨l.dropLast, l.getLast (fun e => by rw [e] at hl; cases hl), (List.dropLast_concat_getLast _).symm⟩
    have hl' : l'.length = n := by simpa using hl
    rw [List.filter_append, isort_snoc, layR_filter (isort_ord l'), List.filter_append]
    by_cases hp : p x = true
    · have e : [x].filter p = [x] := by simp [hp]
      rw [e, isort_snoc, ih l' hl', layR_filter (ord_sub (isort_ord l') List.filter_sublist), List.filter_cons, if_pos hp, filter_comm p, filter_comm p]
    · have hp' : p x = false := by simpa using hp
      have e : [x].filter p = [] := by simp [hp']
      rw [e, List.append_nil, List.filter_cons, if_neg hp, ih l' hl']
      rw [filter_comm (fun y => decide (y.l ≤ x.l)) p, filter_comm (fun y => !decide (y.l ≤ x.l)) p, ← (take_filter (ord_sub (isort_ord l') (List.filter_sublist (p := p))) x.l).1, ← (take_filter (ord_sub (isort_ord l') (List.filter_sublist (p := p))) x.l).2, List.takeWhile_append_dropWhile]
/-- turned over and about -/
noncomputable def flip (xs : List Spot) : List Spot := xs.reverse.map Spot.over
def AllOk (xs : List Spot) : Prop := ∀ x ∈ xs, x.ok
theorem flip_flip {xs : List Spot} (h : AllOk xs) : flip (flip xs) = xs := by
  unfold flip
  rw [← List.map_reverse, List.reverse_reverse, List.map_map]
  have : ∀ l : List Spot, AllOk l → l.map (Spot.over ∘ Spot.over) = l := by
    intro l hl
    induction l with
    | nil => rfl
    | cons x l ih => rw [List.map_cons, ih fun y hy => hl y (.tail _ hy)]; show x.over.over :: l = _; rw [Spot.over_over (hl x (.head _))]
  exact this xs h
theorem flip_ok {xs : List Spot} (h : AllOk xs) : AllOk (flip xs) := fun y hy => by
  obtain ⟨x, hx, rfl⟩ := List.mem_map.mp hy
  exact Spot.over_ok (h x (List.mem_reverse.mp hx))
theorem flip_filter (p : Spot → Bool) (xs : List Spot) : (flip xs).filter p = flip (xs.filter fun y => p y.over) := by
  unfold flip
  rw [List.filter_map, ← List.filter_reverse]
  rfl
theorem flip_append (xs ys : List Spot) : flip (xs ++ ys) = flip ys ++ flip xs := by unfold flip; rw [List.reverse_append, List.map_append]
theorem flip_layR {xs : List Spot} (h : Ord xs) (x : Spot) (ok : x.ok) : flip (layR x.over xs) = layL x (flip xs) := by
  have hf : Ord (flip xs) := ord_over h
  have tl : ∀ {ys : List Spot}, Ord ys → ys.takeWhile (fun y => decide (y.l < x.l)) = ys.filter (fun y => decide (y.l < x.l)) ∧ ys.dropWhile (fun y => decide (y.l < x.l)) = ys.filter (fun y => !decide (y.l < x.l)) := by
    intro ys hy
    have e : (fun y : Spot => decide (y.l < x.l)) = fun y => decide (y.l ≤ x.l - 1) := by funext y; exact decide_eq_decide.mpr (by omega)
    have e3 : (fun y : Spot => !decide (y.l < x.l)) = fun y => !decide (y.l ≤ x.l - 1) := by
      funext y
      have : decide (y.l < x.l) = decide (y.l ≤ x.l - 1) := congrFun e y
      rw [this]
    rw [e3, e]
    exact take_filter hy _
  unfold layL
  rw [(tl hf).1, (tl hf).2, flip_filter, flip_filter, layR_filter h, flip_append]
  have e1 : flip (x.over :: xs.filter fun y => !decide (y.l ≤ x.over.l)) = flip (xs.filter fun y => !decide (y.l ≤ x.over.l)) ++ [x] := by
    rw [show (x.over :: xs.filter fun y => !decide (y.l ≤ x.over.l)) = [x.over] ++ xs.filter (fun y => !decide (y.l ≤ x.over.l)) from rfl, flip_append]
    show _ ++ [x.over.over] = _
    rw [Spot.over_over ok]
  rw [e1, List.append_assoc]
  have ol : ∀ y : Spot, y.over.l = 16 - y.l := fun _ => rfl
  have f1 : (fun y : Spot => decide (y.over.l < x.l)) = fun y => !decide (y.l ≤ x.over.l) := by
    funext y; rw [ol, ol]
    by_cases q : y.l ≤ 16 - x.l
    · have : ¬ (16 - y.l < x.l) := by omega
      simp [q, this]
    · have : 16 - y.l < x.l := by omega
      simp [q, this]
  have f2 : (fun y : Spot => !decide (y.over.l < x.l)) = fun y => decide (y.l ≤ x.over.l) := by
    funext y
    have this : decide (y.over.l < x.l) = !decide (y.l ≤ x.over.l) := congrFun f1 y
    rw [this, Bool.not_not]
  rw [f1, f2]
  rfl
/-- the row that the deeds leave is what is held, in order, and turned if the negatives are odd -/
theorem acts_are (ds : List Int) : ∃ xs, heldOf ds = (xs, (heldOf ds).2) ∧ AllOk xs ∧ (ds.map deedOf).foldl (fun st d => d.act st) ([], false) = (turned (heldOf ds).2 (isort xs), (heldOf ds).2) := by
  suffices h : ∀ n (l : List Int), l.length = n → AllOk (heldOf l).1 ∧ (l.map deedOf).foldl (fun st d => d.act st) ([], false) = (turned (heldOf l).2 (isort (heldOf l).1), (heldOf l).2) from ⟨(heldOf ds).1, rfl, (h _ ds rfl).1, (h _ ds rfl).2⟩
  have iok : ∀ xs : List Spot, AllOk xs → AllOk (isort xs) := by
    intro xs hx
    suffices h : ∀ (l st : List Spot), AllOk l → AllOk st → AllOk (l.foldl (fun st x => layR x st) st) from h xs [] hx (fun _ q => nomatch q)
    intro l
    induction l with
    | nil => intro st _ h; exact h
    | cons x l ih =>
      intro st hl hs
      refine ih _ (fun y hy => hl y (.tail _ hy)) fun y hy => ?_
      rcases List.mem_cons.mp ((layR_perm x st).mem_iff.mp hy) with rfl | hy
      · exact hl _ (.head _)
      · exact hs y hy
  intro n
  induction n with
  | zero => intro l hl; rw [List.length_eq_zero_iff.mp hl]; exact ⟨fun _ q => (nomatch q), rfl⟩
  | succ n ih =>
    intro l hl
    obtain ⟨l', d, rfl⟩ : ∃ l' x, l = l' ++ [x] := ⟨l.dropLast, l.getLast (fun e => by rw [e] at hl; cases hl), (List.dropLast_concat_getLast _).symm⟩
    obtain ⟨h1, h2⟩ := ih l' (by simpa using hl)
    rw [List.map_append, List.foldl_append, h2, held_snoc]
    generalize heldOf l' = st at h1 h2 ⊢
    obtain ⟨xs, odd⟩ := st
    have h1 : AllOk xs := h1
    have ok := deed_ok d
    show AllOk (holdD (deedOf d) (xs, odd)).1 ∧ (deedOf d).act (turned odd (isort xs), odd) = _
    cases hd : deedOf d with
    | neg =>
      refine ⟨h1, ?_⟩
      cases odd with
      | false => rfl
      | true =>
        show (flip (flip (isort xs)), false) = (isort xs, false)
        rw [flip_flip (iok xs h1)]
    | drop lo hi =>
      refine ⟨fun y hy => h1 y (List.mem_filter.mp hy).1, ?_⟩
      cases odd with
      | false =>
        show (outOf lo hi (isort xs), false) = (isort (xs.filter _), false)
        rw [isort_filter]; rfl
      | true =>
        show (outOf lo hi (flip (isort xs)), true) = (flip (isort (xs.filter _)), true)
        rw [isort_filter]
        unfold outOf
        rw [flip_filter]; rfl
    | lay x g =>
      rw [hd] at ok
      have okx : x.ok := ok.1
      cases odd with
      | false =>
        refine ⟨fun y hy => ?_, ?_⟩
        · rcases List.mem_append.mp hy with hy | hy
          · exact h1 y hy
          · rw [List.mem_singleton.mp hy]; exact okx
        · show (layR x (isort xs), false) = (isort (xs ++ [x]), false)
          rw [isort_snoc]
      | true =>
        refine ⟨fun y hy => ?_, ?_⟩
        · rcases List.mem_append.mp hy with hy | hy
          · exact h1 y hy
          · rw [List.mem_singleton.mp hy]; exact Spot.over_ok okx
        · show (layL x (flip (isort xs)), true) = (flip (isort (xs ++ [x.over])), true)
          rw [isort_snoc, flip_layR (isort_ord xs) x okx]
theorem tw_all {α : Type} {p : α → Bool} : ∀ {l : List α}, ∀ y ∈ l.takeWhile p, p y = true
  | [], _, h => nomatch h
  | a :: l, y, h => by
    rw [List.takeWhile_cons] at h
    by_cases q : p a = true
    · rw [if_pos q] at h
      rcases List.mem_cons.mp h with rfl | h
      · exact q
      · exact tw_all y h
    · rw [if_neg q] at h; cases h
/-- the places in order -/
noncomputable def isortI (f : Nat → Int) : Nat → List Nat
  | 0 => []
  | n + 1 => (isortI f n).takeWhile (fun i => decide (f i ≤ f n)) ++ n :: (isortI f n).dropWhile (fun i => decide (f i ≤ f n))
theorem isortI_ok (f : Nat → Int) : ∀ n, (isortI f n).Perm (List.range n) ∧ (isortI f n).Pairwise (fun i j => ltF f i j = true)
  | 0 => ⟨List.Perm.refl _, List.Pairwise.nil⟩
  | n + 1 => by
    obtain ⟨h1, h2⟩ := isortI_ok f n
    have O := ltF_strict f
    have lt : ∀ i ∈ isortI f n, i < n := fun i hi => List.mem_range.mp (h1.mem_iff.mp hi)
    have e := List.takeWhile_append_dropWhile (p := fun i => decide (f i ≤ f n)) (l := isortI f n)
    have hp : (isortI f n).Pairwise (fun i j => f i ≤ f j) := h2.imp fun {a b} q => by
      have := of_decide_eq_true q
      omega
    have hd : ∀ i ∈ (isortI f n).dropWhile (fun i => decide (f i ≤ f n)), f n < f i := by
      generalize isortI f n = l at hp
      induction l with
      | nil => exact fun _ q => nomatch q
      | cons a l ih =>
        have ha := List.pairwise_cons.mp hp
        intro i hi
        rw [List.dropWhile_cons] at hi
        by_cases q : f a ≤ f n
        · rw [if_pos (decide_eq_true q)] at hi; exact ih ha.2 i hi
        · rw [if_neg (by simpa using q)] at hi
          rcases List.mem_cons.mp hi with rfl | hi
          · omega
          · have := ha.1 i hi; omega
    have ht : ∀ i ∈ (isortI f n).takeWhile (fun i => decide (f i ≤ f n)), f i ≤ f n := fun i hi => by
      have := tw_all i hi
      simpa using this
    have hsub : ∀ i ∈ (isortI f n).takeWhile (fun i => decide (f i ≤ f n)), i < n := fun i hi => lt i (by rw [← e]; exact List.mem_append_left _ hi)
    refine ⟨?_, ?_⟩
    · show ((isortI f n).takeWhile _ ++ n :: (isortI f n).dropWhile _).Perm _
      rw [List.range_succ]
      refine List.perm_middle.trans ?_
      rw [e]
      exact (List.Perm.cons n h1).trans (List.perm_append_comm (l₁ := [n]))
    · show ((isortI f n).takeWhile _ ++ n :: (isortI f n).dropWhile _).Pairwise _
      have h2' := h2
      rw [← e] at h2'
      obtain ⟨p1, p2, p3⟩ := List.pairwise_append.mp h2'
      refine List.pairwise_append.mpr ⟨p1, List.pairwise_cons.mpr ⟨fun i hi => ?_, p2⟩, fun a ha b hb => ?_⟩
      · unfold ltF; exact decide_eq_true (Or.inl (hd i hi))
      · rcases List.mem_cons.mp hb with rfl | hb
        · have q1 := ht a ha
          have q2 := hsub a ha
          unfold ltF; exact decide_eq_true (by omega)
        · exact p3 a ha b hb
theorem isortI_map (xs : List Spot) : ∀ n, n ≤ xs.length → (isortI (fun i => (xs.getD i zS).l) n).map (fun i => xs.getD i zS) = isort (xs.take n)
  | 0, _ => rfl
  | n + 1, h => by
    have ih := isortI_map xs n (by omega)
    have hx : xs[n]? = some (xs.getD n zS) := by rw [List.getElem?_eq_getElem (by omega), List.getD_eq_getElem?_getD, List.getElem?_eq_getElem (by omega)]; rfl
    rw [List.take_add_one, hx]
    show _ = isort (xs.take n ++ [xs.getD n zS])
    rw [isort_snoc, ← ih]
    show List.map _ (_ ++ n :: _) = _
    unfold layR
    rw [List.map_append, List.map_cons, List.takeWhile_map, List.dropWhile_map]
    rfl
theorem due_is {xs : List Spot} {p : Array Nat} (hP : Pm xs.length p) (hS : SortTo (ltF fun i => (xs.getD i zS).l) p xs.length) : (p.toList.map fun i => xs.getD i zS) = isort xs := by
  obtain ⟨h1, h2⟩ := isortI_ok (fun i => (xs.getD i zS).l) xs.length
  have O := ltF_strict (fun i => (xs.getD i zS).l)
  have hp : p.toList.Pairwise (fun i j => ltF (fun i => (xs.getD i zS).l) i j = true) := by
    rw [List.pairwise_iff_getElem]
    intro i j hi hj hij
    have si := hP.size
    rw [Array.length_toList] at hi hj
    have := hS i j hij (by omega)
    have e1 : p.getD i 0 = p.toList[i] := by simp [Array.getD, hi]
    have e2 : p.getD j 0 = p.toList[j] := by simp [Array.getD, hj]
    rw [e1, e2] at this
    exact this
  have e : p.toList = isortI (fun i => (xs.getD i zS).l) xs.length := by
    refine List.Perm.eq_of_pairwise (le := fun i j => ltF (fun i => (xs.getD i zS).l) i j = true) (fun a b _ _ q1 q2 => ?_) hp h2 (List.Perm.trans hP h1.symm)
    have := O.tr q1 q2
    rw [O.irr] at this
    cases this
  rw [e, isortI_map xs xs.length (Nat.le_refl _), List.take_length]
end Mine
end
section
open PySem PySem.W PyProof.Rows PySem.Spec PySem.Calls
set_option linter.unusedVariables false
namespace Mine
section
variable {p : Program} {loose : List Str} {mean : ExcName → Option Value} {mg mb : Str → Option Value} {w : World} {dp un : Nat} {fr : List Env} {gd : Option (List Code)} {s : Shared} {E : Value → Shared → Prop} {g : Heap} {L : Addr} {m : Str → Option Value} {news base : List (Addr × Obj)}
/-- an object that a callee made above the caller's heap -/
theorem led_high {h h' : Heap} {a : Addr} {o : Obj} {l : List (Addr × Obj)} (F : Fr g L h m) (ha : h.objs.size ≤ a) (e : h'.get? a = some o) (r : News g L h' l) : News g L h' ((a, o) :: l) := by
  have hL : L < h.objs.size := F.ns.lt
  exact led_cons e (Nat.ne_of_gt (Nat.lt_of_lt_of_le hL ha)) (Heap.get?_none_of_le (Nat.le_trans F.above (Nat.le_trans (Nat.le_of_lt hL) ha))) r
theorem file_step {x : Str} {ta : Tok} {Q : Value → Shared → Prop} (F : Fr g L s.heap m) (N : News g L s.heap news) (h101 : (101, tabObj #[]) ∈ news) (hb : ∀ q ∈ base, q ∈ news ∧ q.1 ≠ 101) (X : (hd.heap_1 w.params).In g) (T : Top p loose mean mg mb g) (C : CodeHd g 105 101)
    (hdp : dp + 30 < recursionLimit) (hun : un + 300 < cLine) (hx : x.length ≤ 10000)
    (h : ∀ Fl h' tk' t ps, Fr g L h' m → News g L h' ((Fl.fx, instObj 95 Fl.fd) :: (Fl.fd, Fl.DO) :: (Fl.f, Fl.FO) :: (Fl.cc, Fl.CO) :: (Fl.ct, Fl.CT) :: (Fl.cp, Fl.CP) :: (Fl.l, lstO [.int 0 t] 0) :: base) → News g L h' [(101, tabObj ps)] → FileO Fl → FileD w.params Fl → FnObj Fl.FO → ReadSpec w x Fl → (∀ q ∈ base, q.1 < Fl.ct) → 101 < Fl.ct → Q (.ref Fl.fx) { s with heap := h', toks := tk' }) :
    wpAny (model PySem.Challenge.pw_pg0177_01 w) (arnd dp un fr gd) (call (.ref 106) [.str x ta] []) Q E s := by
  have n1 := N _ h101
  refine lexFile F.keep X T hdp hun hx C n1.1 n1.2.2 fun Fl h' tk' t B hz O At D Fn hl hg R => ?_
  obtain ⟨ps, hg⟩ := hg
  obtain ⟨o1, o2, o3, o4, o5, o6⟩ := O
  have F' : Fr g L h' m := Fr.but F B fun a ha => by rcases List.mem_singleton.mp ha with rfl; exact n1.2
  have le : ∀ {a : Addr}, Fl.ct ≤ a → s.heap.objs.size ≤ a := fun q => Nat.le_trans hz q
  have c1 : Fl.ct ≤ Fl.cp := Nat.le_of_lt o1
  have c2 : Fl.ct ≤ Fl.fd := Nat.le_trans c1 (Nat.le_of_lt o2)
  have c3 : Fl.ct ≤ Fl.fx := Nat.le_trans c2 (Nat.le_of_lt o3)
  have c4 : Fl.ct ≤ Fl.l := Nat.le_trans c3 (Nat.le_of_lt o4)
  have c5 : Fl.ct ≤ Fl.cc := Nat.le_trans c4 (Nat.le_of_lt o5)
  have c6 : Fl.ct ≤ Fl.f := Nat.le_trans c5 (Nat.le_of_lt o6)
  refine h Fl h' tk' t ps F' ?_ (led_cons hg n1.2.1 n1.2.2 led_nil) ⟨o1, o2, o3, o4, o5, o6⟩ D Fn R (fun q hq => Nat.lt_of_lt_of_le (Heap.lt_size (N q (hb q hq).1).1) hz) (Nat.lt_of_lt_of_le (Heap.lt_size n1.1) hz)
  refine led_high F (le c3) At.fx (led_high F (le c2) At.fd (led_high F (le c6) At.f (led_high F (le c5) At.cc (led_high F hz At.ct (led_high F (le c1) At.cp (led_high F (le c4) hl ?_))))))
  intro q hq
  have n := N q (hb q hq).1
  exact ⟨B.get _ _ (fun e => (hb q hq).2 (List.mem_singleton.mp e)) n.1, n.2⟩
theorem mem_put {α : Type} {x1 x2 x3 x4 x5 x6 x7 a b c q : α} {tl : List α} : ∀ p ∈ x1 :: x2 :: x3 :: x4 :: x5 :: x6 :: x7 :: a :: b :: c :: q :: tl, p ∈ q :: x1 :: x2 :: x3 :: x4 :: x5 :: x6 :: x7 :: a :: b :: c :: tl := by
  repeat' (first | (intro p hp; (repeat (first | exact hp | refine List.Mem.tail _ ?_)); done) | refine List.forall_mem_cons.mpr ⟨by repeat (first | exact List.Mem.head _ | refine List.Mem.tail _ ?_), ?_⟩)
theorem mem_put2 {α : Type} {a b c q : α} {tl : List α} : ∀ p ∈ a :: b :: c :: q :: tl, p ∈ q :: a :: b :: c :: tl := by
  repeat' (first | (intro p hp; (repeat (first | exact hp | refine List.Mem.tail _ ?_)); done) | refine List.forall_mem_cons.mpr ⟨by repeat (first | exact List.Mem.head _ | refine List.Mem.tail _ ?_), ?_⟩)
theorem mem_lex {α : Type} {a b c d e f g h i j : α} {r : List α} : ∀ p ∈ a :: b :: d :: e :: f :: g :: h :: i :: j :: c :: r, p ∈ a :: b :: c :: d :: e :: f :: g :: h :: i :: j :: r := by
  repeat' (first | (intro p hp; (repeat (first | exact hp | refine List.Mem.tail _ ?_)); done) | refine List.forall_mem_cons.mpr ⟨by repeat (first | exact List.Mem.head _ | refine List.Mem.tail _ ?_), ?_⟩)
theorem news_put {h : Heap} {x1 x2 x3 x4 x5 x6 x7 a b c q : Addr × Obj} {tl : List (Addr × Obj)} (N : News g L h (x1 :: x2 :: x3 :: x4 :: x5 :: x6 :: x7 :: a :: b :: c :: tl)) (M : News g L h [q]) :
    News g L h (x1 :: x2 :: x3 :: x4 :: x5 :: x6 :: x7 :: a :: b :: c :: q :: tl) := fun p hp => (List.mem_cons.mp (mem_put p hp)).elim (fun e => M p (by rw [e]; exact .head _)) (N p)
theorem lt_put {a b c q : Addr × Obj} {tl : List (Addr × Obj)} {z : Nat} (k : ∀ p ∈ a :: b :: c :: tl, p.1 < z) (hq : q.1 < z) : ∀ p ∈ a :: b :: c :: q :: tl, p.1 < z := fun p hp =>
  (List.mem_cons.mp (mem_put2 p hp)).elim (fun e => by rw [e]; exact hq) (k p)
theorem ln0 (cs : List Nat) : lnAt cs 0 = 1 := by unfold lnAt; simp
theorem lex_step {Fl : FileA} {x : Str} {t : Tok} {Q : Value → Shared → Prop} (F : Fr g L s.heap m) (N : News g L s.heap ((Fl.fx, instObj 95 Fl.fd) :: (Fl.fd, Fl.DO) :: (Fl.f, Fl.FO) :: (Fl.cc, Fl.CO) :: (Fl.ct, Fl.CT) :: (Fl.cp, Fl.CP) :: (Fl.l, lstO [.int 0 t] 0) :: base)) (X : (hd.heap_1 w.params).In g) (T : Top p loose mean mg mb g)
    (hdp : dp + 12 < recursionLimit) (hun : un + 120 < cLine) (O : FileO Fl) (D : FileD w.params Fl) (Fn : FnObj Fl.FO) (R : ReadSpec w x Fl) (hx : x.length ≤ 10000)
    (h : ∀ (Z : LexK) h' tk' t0 t1 t2, LexOk w Z → Z.x = x → Z.F = Fl → Fr g L h' m → News g L h' (core w.params Z [] 0 0 0 t0 t1 t2 ++ base) → Q (.ref Z.lx) { s with heap := h', toks := tk' }) :
    wpAny (model PySem.Challenge.pw_pg0177_01 w) (arnd dp un fr gd) (call (.ref 95) [.ref Fl.fx] []) Q E s := by
  refine lexNew F.keep X T hdp hun fun lx dx pb h' tk' u1 u2 u3 u4 u5 u6 B hx0 hd0 hp0 hz l1 l2 e1 e2 e3 => ?_
  obtain ⟨d1, d2, d3, d4, d5, d6, d7, pbf, hD⟩ := D.d
  have hf := Heap.lt_size (N _ (.tail _ (.tail _ (.head _)))).1
  have F' := Fr.pure F B
  have N' := News.pure N B
  refine h ⟨lx, dx, pb, pbf, Fl, x, u3, u4, u5, u6, d1, d2, d3, d4, d5, d6, d7⟩ h' tk' t u1 u2 ⟨Fn, O, hD, R, hx, Nat.lt_of_lt_of_le hf hz, l1, l2⟩ rfl rfl F' ?_
  have hz1 : s.heap.objs.size ≤ lx := Nat.le_trans hz (Nat.le_of_lt l1)
  have hz2 : s.heap.objs.size ≤ pb := Nat.le_trans hz1 (Nat.le_of_lt l2)
  have N2 : News g L h' ((lx, instObj 95 dx) :: (dx, _) :: (pb, lstO [] 0) :: (Fl.fx, instObj 95 Fl.fd) :: (Fl.fd, Fl.DO) :: (Fl.f, Fl.FO) :: (Fl.cc, Fl.CO) :: (Fl.ct, Fl.CT) :: (Fl.cp, Fl.CP) :: (Fl.l, lstO [.int 0 t] 0) :: base) := led_high F hz1 e1 (led_high F hz e3 (led_high F hz2 e2 N'))
  rw [hD] at N2
  show News g L h' ((lx, instObj 95 dx) :: (dx, dictOf [⟨_, _, .int (lnAt x.cps.toList 0) _⟩, _, _, _] 4) :: (Fl.fx, instObj 95 Fl.fd) :: (Fl.fd, _) :: (Fl.f, Fl.FO) :: (Fl.cc, Fl.CO) :: (Fl.ct, Fl.CT) :: (Fl.cp, Fl.CP) :: (Fl.l, lstO [.int 0 t] 0) :: (pb, lstO [] 0) :: base)
  rw [ln0]
  exact news_sub N2 mem_lex
theorem run_step {Z : LexK} {np k n0 : Nat} {c : Int} {t0 t1 t2 tc : Tok} {ds : List Deed} {Q : Value → Shared → Prop} (F : Fr g L s.heap m) (N : News g L s.heap (core w.params Z [] np k n0 t0 t1 t2 ++ base)) (hb : ∀ q ∈ base, q.1 < Z.F.ct) (X : (hd.heap_1 w.params).In g) (T : Top p loose mean mg mb g)
    (hdp : dp + 90 < recursionLimit) (hun : un + 900 < cLine) (Y : LexOk w Z) (R : Reads Z.x.cps.toList k (ds.flatMap Deed.words)) (hds : ∀ d ∈ ds, d.ok) (hne : ds ≠ []) (hc : c = ds.length) (hc1 : c ≤ 20) (hcs : Z.x.cps.toList.length ≤ 40000)
    (h : ∀ row vs n cols h' tk' np n0 t0 t1 t2 v tr, Fr g L h' m → News g L h' ((row, lstO vs n) :: (cols ++ (core w.params Z [.str v tr] np (Z.x.cps.toList.length + 1) n0 t0 t1 t2 ++ base))) → ColsOf cols vs (ds.foldl (fun st d => d.act st) ([], false)).1 → (Str.cps v).toList = [] → Q (.ref row) { s with heap := h', toks := tk' }) :
    wpAny (model PySem.Challenge.pw_pg0177_01 w) (arnd dp un fr gd) (call (.ref 130) [.ref Z.lx, .int c tc] []) Q E s := by
  have hob : ∀ q ∈ core w.params Z [] np k n0 t0 t1 t2, s.heap.get? q.1 = some q.2 ∧ g.get? q.1 = none := fun q hq => ⟨(N q (List.mem_append_left _ hq)).1, (N q (List.mem_append_left _ hq)).2.2⟩
  refine lawRun F.keep X T hdp hun Y hob R hds hne hc rfl (by omega) hc1 hcs fun row vs n cols h' tk' np' n0' t0' t1' t2' v tr B hnew C hv hcore => ?_
  obtain ⟨o1, o2, o3, o4, o5, o6⟩ := Y.fo
  have z1 : Z.F.ct < Z.F.l := Nat.lt_trans o1 (Nat.lt_trans o2 (Nat.lt_trans o3 o4))
  have z2 : Z.F.ct < Z.ld := Nat.lt_trans z1 (Nat.lt_trans o5 (Nat.lt_trans o6 Y.o7))
  have z3 : Z.F.ct < Z.pb := Nat.lt_trans z2 (Nat.lt_trans Y.o8 Y.o9)
  have cm : ∀ q ∈ core w.params Z [] np k n0 t0 t1 t2, q.1 ≠ L ∧ g.get? q.1 = none := fun q hq => (N q (List.mem_append_left _ hq)).2
  have F' : Fr g L h' m := Fr.but F B fun a ha => by
    rcases List.mem_cons.mp ha with rfl | ha
    · exact cm (Z.ld, _) (.tail _ (.head _))
    rcases List.mem_cons.mp ha with rfl | ha
    · exact cm (Z.F.l, lstO [.int k t0] n0) (by k_mem)
    rcases List.mem_singleton.mp ha with rfl
    exact cm (Z.pb, lstO [] np) (by k_mem)
  refine h row vs n cols h' tk' np' n0' t0' t1' t2' v tr F' ?_ C hv
  have mk : ∀ (l : List (Addr × Obj)), (∀ q ∈ l, s.heap.get? q.1 = none ∧ h'.get? q.1 = some q.2) → ∀ {r}, News g L h' r → News g L h' (l ++ r) := by
    intro l
    induction l with
    | nil => intro _ r hr; exact hr
    | cons q l ih => intro hq r hr; exact led_new F (hq q (.head _)).1 (hq q (.head _)).2 (ih (fun a ha => hq a (.tail _ ha)) hr)
  refine mk ((row, lstO vs n) :: cols) hnew ?_
  intro q hq
  rcases List.mem_append.mp hq with hq | hq
  · refine ⟨hcore q hq, ?_⟩
    have : q.1 ∈ (core w.params Z [] np k n0 t0 t1 t2).map Prod.fst := by
      have : q.1 ∈ (core w.params Z [.str v tr] np' (Z.x.cps.toList.length + 1) n0' t0' t1' t2').map Prod.fst := List.mem_map_of_mem hq
      exact this
    obtain ⟨q', hq', e⟩ := List.mem_map.mp this
    rw [← e]
    exact cm q' hq'
  · have nq := N q (List.mem_append_right _ hq)
    refine ⟨B.get _ _ (fun z => ?_) nq.1, nq.2⟩
    have hlt := hb q hq
    rcases List.mem_cons.mp z with z | z
    · exact absurd (z ▸ hlt) (Nat.not_lt.mpr (Nat.le_of_lt z2))
    rcases List.mem_cons.mp z with z | z
    · exact absurd (z ▸ hlt) (Nat.not_lt.mpr (Nat.le_of_lt z1))
    rcases List.mem_singleton.mp z with z
    exact absurd (z ▸ hlt) (Nat.not_lt.mpr (Nat.le_of_lt z3))
end
/-- what of a ledger stays behind a file's making -/
structure BaseOk (news base : List (Addr × Obj)) : Prop where
  tab : (101, tabObj #[]) ∈ news
  h : ∀ q ∈ base, q ∈ news ∧ q.1 ≠ 101
theorem base_ok {g h : Heap} {L D ll hl I c1 c2 c3 c4 : Addr} {dv lv hv vs : List Value} {nD nl nh nv : Nat} {o1 o2 o3 o4 : Obj} {cs cols : List (Addr × Obj)}
    (N : News g L h ((D, lstO dv nD) :: (cs ++ (ll, lstO lv nl) :: (hl, lstO hv nh) :: (I, lstO vs nv) :: (c4, o4) :: (c3, o3) :: (c2, o2) :: (c1, o1) :: (101, tabObj #[]) :: cols))) (h1 : ∀ p ∈ cs, p.1 ≠ 101) (h2 : ∀ p ∈ cols, p.1 ≠ 101) :
    BaseOk ((D, lstO dv nD) :: (cs ++ (ll, lstO lv nl) :: (hl, lstO hv nh) :: (I, lstO vs nv) :: (c4, o4) :: (c3, o3) :: (c2, o2) :: (c1, o1) :: (101, tabObj #[]) :: cols)) ((D, lstO dv nD) :: (ll, lstO lv nl) :: (I, lstO vs nv) :: (cs ++ cols)) := by
  have mt : (101, tabObj #[]) ∈ ((D, lstO dv nD) :: (cs ++ (ll, lstO lv nl) :: (hl, lstO hv nh) :: (I, lstO vs nv) :: (c4, o4) :: (c3, o3) :: (c2, o2) :: (c1, o1) :: (101, tabObj #[]) :: cols)) := .tail _ (List.mem_append_right _ (by k_mem))
  have nlst : ∀ {a : Addr} {xs : List Value} {n : Nat}, (a, lstO xs n) ∈ ((D, lstO dv nD) :: (cs ++ (ll, lstO lv nl) :: (hl, lstO hv nh) :: (I, lstO vs nv) :: (c4, o4) :: (c3, o3) :: (c2, o2) :: (c1, o1) :: (101, tabObj #[]) :: cols)) → a ≠ 101 := fun {a xs n} hm e => by
    have q1 := (N _ hm).1
    have q2 := (N _ mt).1
    have q1 : h.get? 101 = some (lstO xs n) := e ▸ q1
    have q2 : h.get? 101 = some (tabObj #[]) := q2
    rw [q2] at q1
    exact absurd (congrArg (fun o : Option Obj => o.map fun o => match o.data with | .seq _ _ => true | _ => false) q1) (by simp [tabObj])
  refine ⟨mt, fun q hq => ?_⟩
  rcases List.mem_cons.mp hq with rfl | hq
  · exact ⟨.head _, nlst (.head _)⟩
  rcases List.mem_cons.mp hq with rfl | hq
  · have : (ll, lstO lv nl) ∈ ((D, lstO dv nD) :: (cs ++ (ll, lstO lv nl) :: (hl, lstO hv nh) :: (I, lstO vs nv) :: (c4, o4) :: (c3, o3) :: (c2, o2) :: (c1, o1) :: (101, tabObj #[]) :: cols)) := .tail _ (List.mem_append_right _ (by k_mem))
    exact ⟨this, nlst this⟩
  rcases List.mem_cons.mp hq with rfl | hq
  · have : (I, lstO vs nv) ∈ ((D, lstO dv nD) :: (cs ++ (ll, lstO lv nl) :: (hl, lstO hv nh) :: (I, lstO vs nv) :: (c4, o4) :: (c3, o3) :: (c2, o2) :: (c1, o1) :: (101, tabObj #[]) :: cols)) := .tail _ (List.mem_append_right _ (by k_mem))
    exact ⟨this, nlst this⟩
  rcases List.mem_append.mp hq with hq | hq
  · exact ⟨.tail _ (List.mem_append_left _ hq), h1 q hq⟩
  · exact ⟨.tail _ (List.mem_append_right _ (.tail _ (.tail _ (.tail _ (.tail _ (.tail _ (.tail _ (.tail _ (.tail _ hq))))))))), h2 q hq⟩
theorem len_ints {prog : Program} {w : World} {A : Around} {E : Value → Shared → Prop} {s : Shared} {g : Heap} {L W : Addr} {n : Nat} {vs : List Value} {xs : List Int} {news : List (Addr × Obj)} {Q : Value → Shared → Prop} (N : News g L s.heap news) (hs : IntsV vs xs) (hm : (W, lstO vs n) ∈ news) (hw : vs.length ≤ 1000)
    (h : Q (.int vs.length (s.toks + 1)) { s with toks := s.toks + 1 + 1 }) : wpAny (model prog w) A (call (.builtin "len") [.ref W]) Q E s :=
  PyProof.Rows.len_list ⟨_, (N _ hm).1, rfl, n, rfl⟩ (by rw [List.size_toArray]; omega) (by rw [List.size_toArray]; exact h)
theorem sub_run {α : Type} {row a b c : α} {rc co tl : List α} : ∀ q ∈ row :: (co ++ (a :: b :: c :: (rc ++ tl))), q ∈ row :: (rc ++ (co ++ (a :: b :: c :: tl))) := by
  intro q hq
  simp only [List.mem_cons, List.mem_append] at hq ⊢
  rcases hq with h | h | h | h | h | h | h <;> simp [h]
/-- a colour's figures as data -/
noncomputable def colD (x : Spot) : PySem.W.Dat := .tuple [.int x.p0, .int x.p1, .int x.p2]
theorem cols_dat {cs : List (Addr × Obj)} : ∀ {vs : List Value} {xs : List Spot}, ColsOf cs vs xs → DatAll cs vs (xs.map colD)
  | [], [], _ => .nil
  | .ref a :: vs, x :: xs, c => by
    obtain ⟨ok, ⟨t1, t2, t3, n, hm⟩, r⟩ := c
    exact .cons (.tuple hm (.cons (.int _ _) (.cons (.int _ _) (.cons (.int _ _) .nil)))) (cols_dat r)
theorem cols_ok (xs : List Spot) : ∀ d ∈ xs.map colD, kqdOk 8 d = true := by
  intro d hd
  obtain ⟨x, _, rfl⟩ := List.mem_map.mp hd
  rfl
theorem rows_ne {prog : Program} {w : World} {A : Around} {E : Value → Shared → Prop} {s : Shared} {g : Heap} {L a b : Addr} {xs ys : List Value} {ka kb : Nat} {zs : List Spot} {c1 c2 news : List (Addr × Obj)} {Q : Value → Shared → Prop} (N : News g L s.heap news) (ma : (a, lstO xs ka) ∈ news) (Ca : ColsOf c1 xs zs) (sa : ∀ p ∈ c1, p ∈ news) (mb : (b, lstO ys kb) ∈ news) (Cb : ColsOf c2 ys zs) (sb : ∀ p ∈ c2, p ∈ news) (hu : A.units + 64 < cLine)
    (h : Q (.bool false) s) : wpAny (model prog w) A (compareOp .NotEq (.ref a) (.ref b)) Q E s := by
  refine kqd_ne N ma rfl rfl (cols_dat Ca) sa mb rfl rfl (cols_dat Cb) sb (cols_ok _) (cols_ok _) hu ?_
  have q : ∀ inst : Decidable (zs.map colD = zs.map colD), @decide _ inst = true := fun _ => decide_eq_true rfl
  rw [q]
  exact h
theorem turned_len (b : Bool) (l : List Spot) : (turned b l).length = l.length := by unfold turned; split <;> simp
theorem row_due {ds : List Int} {p : Array Nat} {n : Nat} (hn : (heldOf ds).1.length = n) (hP : Pm n p) (hS : SortTo (ltF fun i => ((heldOf ds).1.getD i zS).l) p n) :
    ((ds.map deedOf).foldl (fun st d => d.act st) ([], false)).1 = turned (heldOf ds).2 (p.toList.map fun i => (heldOf ds).1.getD i zS) := by
  subst hn
  obtain ⟨xs, e1, _, e2⟩ := acts_are ds
  rw [e2, due_is hP hS]
  have : xs = (heldOf ds).1 := by rw [e1]
  rw [this]
end Mine
end
section
open PySem PySem.W PyProof.Rows PySem.Spec PySem.Calls PySem.SeqAt
set_option linter.unusedVariables false
namespace Mine
theorem booked {p : Program} {loose : List Str} {mean : ExcName → Option Value} {mg mb : Str → Option Value} {w : World} {g h : Heap} (X : (hd.heap_1 w.params).In g) (T : Top p loose mean mg mb g) (k : ∀ b o, g.get? b = some o → h.get? b = some o) : NoneBooked h := by
  obtain ⟨mc, hn, _⟩ := T.nolimit
  exact ⟨mc, hn.keeps k, ns_none_of X hn (by with_unfolding_all rfl)⟩
theorem isSame_float {M : Model} {A : Around} {E : Value → Shared → Prop} {s : Shared} {y z : UInt64} {u v : Tok} {Q : Bool → Shared → Prop}
    (hu : u ≠ 0) (hv : v ≠ 0) (hb : NoneBooked s.heap) (hq : ∀ b, Q b s) : wpAny M A (isSame (.float y u) (.float z v)) Q E s := by
  have h0 : (u == 0 || v == 0) = false := by
    rw [Bool.or_eq_false_iff]
    exact ⟨beq_eq_false_iff_ne.mpr hu, beq_eq_false_iff_ne.mpr hv⟩
  show wpAny M A (isSame.created (y == z && !Float64.isNaN y) u v) Q E s
  unfold isSame.created
  refine wpAny_ite ?_
  split
  · rename_i h; rw [h0] at h; exact absurd h Bool.false_ne_true
  refine wpAny_ite ?_
  split
  · exact wpAny_pure (hq _)
  refine wpAny_ite ?_
  split
  · exact wpAny_pure (hq _)
  refine wpAny_bind (wpAny_sharingNotTold_none hb ?_)
  first | rw [if_neg Bool.false_ne_true] | simp only [Bool.false_eq_true, if_false]
  refine wpAny_bind (wpAny_sharingNotTold_none hb ?_)
  first | rw [if_neg Bool.false_ne_true] | simp only [Bool.false_eq_true, if_false]
  exact wpAny_bind (wpAny_rule (wpAny_bind (wpAny_askSetting (wpAny_pure (hq _)))))
theorem eqAt_float {A : Around} {s : Shared} {x : UInt64} {t u : Tok} (ht : t ≠ 0) (hu : u ≠ 0) (hb : NoneBooked s.heap) (hc : (Float64.cmp x x == some Ordering.eq) = true) : EqAt A s (.float x t) (.float x u) true := by
  intro prog w E Q h
  unfold eqBool
  show wpAny _ _ (if (Value.float x t == Value.float x u) = true then _ else _) Q E s
  by_cases hab : (Value.float x t == Value.float x u) = true
  · rw [if_pos hab]
    exact wpAny_bind (wpAny_rule (wpAny_pure h))
  · rw [if_neg hab]
    refine wpAny_bind (isSame_float ht hu hb fun b => ?_)
    cases b with
    | true => exact wpAny_pure h
    | false =>
      refine wpAny_bind (AutoFloatOps.eq_0 ?_)
      rw [hc]
      exact wpAny_truthy_bool h
theorem ftup_ne {prog : Program} {w : World} {A : Around} {E : Value → Shared → Prop} {s : Shared} {a b : Addr} {x y z : UInt64} {t1 t2 t3 u1 u2 u3 : Tok} {Q : Value → Shared → Prop} (ha : s.heap.IsTuple a #[.float x t1, .float y t2, .float z t3]) (hb : s.heap.IsTuple b #[.float x u1, .float y u2, .float z u3])
    (h1 : t1 ≠ 0 ∧ t2 ≠ 0 ∧ t3 ≠ 0) (h2 : u1 ≠ 0 ∧ u2 ≠ 0 ∧ u3 ≠ 0) (nb : NoneBooked s.heap) (c1 : (Float64.cmp x x == some Ordering.eq) = true) (c2 : (Float64.cmp y y == some Ordering.eq) = true) (c3 : (Float64.cmp z z == some Ordering.eq) = true) (hu : A.units < cLine) (h : Q (.bool false) s) :
    wpAny (model prog w) A (compareOp .NotEq (.ref a) (.ref b)) Q E s := by
  refine (RcNeAt.tuples (e := fun _ => true) ha hb hu fun j h3 h4 => ?_) prog w E Q h
  have h3 : j < 3 := h3
  match j, h3 with
  | 0, _ => exact eqAt_float h1.1 h2.1 nb c1
  | 1, _ => exact eqAt_float h1.2.1 h2.2.1 nb c2
  | 2, _ => exact eqAt_float h1.2.2 h2.2.2 nb c3
theorem fq_self {n : Int} (h : Small n) : (Float64.cmp (fq n) (fq n) == some Ordering.eq) = true := by rw [(fqCmpB h h).2]; exact decide_eq_true rfl
end Mine
end
section
open PySem PySem.W PyProof.Rows PySem.Spec PySem.Calls
set_option linter.unusedVariables false
namespace Mine
section
variable {prog : Program} {w : World} {A : Around} {s : Shared} {g : Heap} {L it ll : Addr} {m0 : Str → Option Value} {rest tl : List (Addr × Obj)} {lv : List Value} {xs : List Spot} {nl : Nat} {oI : Obj}
theorem spots_loop {R : Result → Shared → Prop} {target : PySem.Expr} {body : List Stmt} {env : Env} (cl : List (Str × Value)) (hh : A.handled = none) (hsp : SpotsOf tl lv xs) (F0 : Fr g L s.heap m0) (N0 : News g L s.heap ((it, oI) :: rest)) (hI : IterO oI ll 0) (hl : (ll, lstO lv nl) ∈ rest) (hin : ∀ p ∈ tl, p ∈ rest) (hn : ∀ p ∈ rest, p.1 ≠ it) (hT : Told cl m0)
    (turn : ∀ (t : Addr) (y : Spot) (t1 t2 t3 : Tok) (n : Nat) (m : Str → Option Value) (h : Heap) (tk : Nat) (oI' : Obj), y.ok → Told cl m → Fr g L h m → News g L h ((t, tupO [.int y.h t1, .int y.l t2, .int y.s t3] n) :: (it, oI') :: rest) →
      wpAny (model prog w) A (assign target env (.ref t)) (fun _ s₂ => wpAny (model prog w) A (execs body env) (fun f s₃ => match f with
          | .next | .cont => ∃ h' tk', s₃ = { s with heap := h', toks := tk' } ∧ ∃ m', Told cl m' ∧ Fr g L h' m' ∧ News g L h' ((it, oI') :: rest)
          | .brk => R (.ok .next) s₃
          | .ret v => R (.ok (.ret v)) s₃) (notedBy (model prog w) A env fun e s' => R (.error e) s') s₂) (notedBy (model prog w) A env fun e s' => R (.error e) s') { s with heap := h, toks := tk })
    (fin : ∀ (m : Str → Option Value) (h : Heap) (tk : Nat), Told cl m → Fr g L h m → News g L h rest → R (.ok .next) { s with heap := h, toks := tk })
    (ht : ∀ v, letOwnedTupleGo target (.ref it) v = pure () := by intro _; rfl) : codeAny (model prog w) A (.forLoop target (.ref it) body [] env) R s := by
  have hlen := hsp.length
  let Inv1 : Nat → Shared → Prop := fun n s' => ∃ (i : Nat) (h : Heap) (tk : Nat) (m : Str → Option Value) (oI : Obj), s' = { s with heap := h, toks := tk } ∧ i ≤ lv.length ∧ n = lv.length - i ∧ IterO oI ll i ∧ Told cl m ∧ Fr g L h m ∧ News g L h ((it, oI) :: rest)
  refine codeAny_forLoop Inv1 ?_ lv.length
    ⟨0, s.heap, s.toks, m0, oI, rfl, Nat.zero_le _, rfl, hI, hT, F0, N0⟩ ht
  rintro n s' ⟨i, h, tk, m, oI, rfl, hi, rfl, hI', hm, F, N⟩
  refine listNext_K (l := ll) (vs := lv) (n := nl) hh F N hn hI' hl ?_ ?_
  · intro v hv oI' h' hI2 F' N'
    obtain ⟨y, t, t1, t2, t3, n, hy, ok, rfl, hmt⟩ := hsp.get i v hv
    have hlt : i < lv.length := by
      obtain ⟨q, _⟩ := List.getElem?_eq_some_iff.mp hv
      exact q
    refine wpAny_mono (turn t y t1 t2 t3 n m h' tk oI' ok hm F' (news_dup N' (.tail _ (hin _ hmt)))) (fun _ s₂ h₂ => wpAny_mono h₂ (fun f s₃ h₃ => ?_) fun _ _ e => e) fun _ _ e => e
    cases f with
    | next => obtain ⟨h3, tk3, rfl, m', q1, q2, q3⟩ := h₃; exact ⟨lv.length - (i + 1), by omega, i + 1, h3, tk3, m', oI', rfl, hlt, rfl, hI2, q1, q2, q3⟩
    | cont => obtain ⟨h3, tk3, rfl, m', q1, q2, q3⟩ := h₃; exact ⟨lv.length - (i + 1), by omega, i + 1, h3, tk3, m', oI', rfl, hlt, rfl, hI2, q1, q2, q3⟩
    | brk => exact h₃
    | ret v => exact h₃
  · intro hle h' F' N'
    exact wpAny_pure (fin m h' tk hm F' N')
end
section
variable {p : Program} {loose : List Str} {mean : ExcName → Option Value} {mg mb : Str → Option Value} {w : World} {dp un : Nat} {fr : List Env} {gd : Option (List Code)} {s : Shared} {Q E : Value → Shared → Prop} {g : Heap} {col : Addr}
theorem colHlsT {x : Spot} {t1 t2 t3 : Tok} {n : Nat} (st : g.StaysIn s.heap) (X : (hd.heap_1 w.params).In g) (T : Top p loose mean mg mb g) (hdp : dp + 6 < recursionLimit) (hun : un + 60 < cLine) (ok : x.ok)
    (e : s.heap.get? col = some (tupO [.int x.p0 t1, .int x.p1 t2, .int x.p2 t3] n))
    (hret : ∀ q t h' tk' ta tb tc, But [] s.heap h' → s.heap.get? q = none → h'.get? q = some (tupO [.float (fq x.hq) ta, .float (fq (128 * x.l)) tb, .float (fq x.sq) tc] t) → (ta ≠ 0 ∧ tb ≠ 0 ∧ tc ≠ 0) → Q (.ref q) { s with heap := h', toks := tk' }) :
    wpAny (model PySem.Challenge.pw_pg0177_01 w) (arnd dp un fr gd) (call (.ref 118) [.ref col] []) Q E s := by
  have r := Spot.range ok
  exact lhls st X T hdp hun ok.1 ok.2.1 ok.2.2.1 ok.2.2.2.1 ok.2.2.2.2.1 ok.2.2.2.2.2 e (div_self r.1) (div_self r.2.1) (div_self r.2.2) hret
end
theorem div_hue {n : Int} (h : 0 ≤ n ∧ n < 64) : DivIs n 64 (32 * n) := ⟨by omega, ⟨by omega, by omega⟩, ⟨by omega, by omega⟩, ⟨by omega, by omega⟩, by omega⟩
theorem div_light {n : Int} (h : 0 ≤ n ∧ n ≤ 16) : DivIs n 16 (128 * n) := ⟨by omega, ⟨by omega, by omega⟩, ⟨by omega, by omega⟩, ⟨by omega, by omega⟩, by omega⟩
theorem div_share {n : Int} (h : 0 ≤ n ∧ n ≤ 8) : DivIs n 8 (256 * n) := ⟨by omega, ⟨by omega, by omega⟩, ⟨by omega, by omega⟩, ⟨by omega, by omega⟩, by omega⟩
section
variable {p : Program} {loose : List Str} {mean : ExcName → Option Value} {mg mb : Str → Option Value} {w : World} {dp un : Nat} {fr : List Env} {gd : Option (List Code)} {s : Shared} {E : Value → Shared → Prop} {g : Heap} {L : Addr} {m : Str → Option Value} {Z : LexK} {np k n0 : Nat} {t0 t1 t2 tr : Tok} {v : Str}
theorem pop_step {Q : Value → Shared → Prop} {base : List (Addr × Obj)} (F : Fr g L s.heap m) (N : News g L s.heap (core w.params Z [.str v tr] np k n0 t0 t1 t2 ++ base)) (hb : ∀ q ∈ base, q.1 < Z.F.ct) (X : (hd.heap_1 w.params).In g) (T : Top p loose mean mg mb g) (hdp : dp + 60 < recursionLimit) (hun : un + 600 < cLine) (Y : LexOk w Z)
    (h : ∀ h' tk' np' t, Fr g L h' m → News g L h' (core w.params Z [] np' k n0 t0 t1 t2 ++ base) → Q (.str v t) { s with heap := h', toks := tk' }) :
    wpAny (model PySem.Challenge.pw_pg0177_01 w) (arnd dp un fr gd) (call (.ref 85) [.ref Z.lx] []) Q E s := by
  refine lexPop F.keep X T hdp hun Y (fun q hq => ⟨(N q (List.mem_append_left _ hq)).1, (N q (List.mem_append_left _ hq)).2.2⟩) fun h' tk' np' t B hc => ?_
  have F' : Fr g L h' m := Fr.but F B fun a ha => by
    rcases List.mem_singleton.mp ha with rfl
    exact (N (Z.pb, lstO [.str v tr] np) (List.mem_append_left _ (by k_mem))).2
  refine h h' tk' np' t F' fun q hq => ?_
  rcases List.mem_append.mp hq with hq | hq
  · refine ⟨hc q hq, ?_⟩
    have : q.1 ∈ (core w.params Z [.str v tr] np k n0 t0 t1 t2).map Prod.fst := by
      have : q.1 ∈ (core w.params Z [] np' k n0 t0 t1 t2).map Prod.fst := List.mem_map_of_mem hq
      exact this
    obtain ⟨q', hq', e⟩ := List.mem_map.mp this
    rw [← e]
    exact (N q' (List.mem_append_left _ hq')).2
  · have n := N q (List.mem_append_right _ hq)
    obtain ⟨o1, o2, o3, o4, o5, o6⟩ := Y.fo
    have z1 : Z.F.ct < Z.pb := Nat.lt_trans o1 (Nat.lt_trans o2 (Nat.lt_trans o3 (Nat.lt_trans o4 (Nat.lt_trans o5 (Nat.lt_trans o6 (Nat.lt_trans Y.o7 (Nat.lt_trans Y.o8 Y.o9)))))))
    exact ⟨B.get _ _ (fun e => by have q1 := hb q hq; rw [List.mem_singleton.mp e] at q1; exact Nat.lt_irrefl _ (Nat.lt_trans q1 z1)) n.1, n.2⟩
end
end Mine
end
section
open PySem PySem.W PyProof.Rows PySem.Spec PySem.Calls
set_option linter.unusedVariables false
namespace Mine
open Builtin Builtin.Str StrLaws in
theorem occ_cnt (x : Str) (c : Nat) : ∀ (n i : Nat) (st : Array Nat × Nat), i + n = x.length + 1 → st.2 ≤ i → st.1.size ≤ i →
    (forIn (List.range' i n) st (occBody x ⟨#[c]⟩ x.length (x.length + 1))).run.fst.size = st.1.size + (x.cps.toList.drop i).count c
  | 0, i, st, h, _, _ => by
    have hl : x.cps.toList.length = x.length := Array.length_toList
    rw [List.drop_of_length_le (by omega)]
    rfl
  | n + 1, i, st, h, h1, h2 => by
    have hl : x.cps.toList.length = x.length := Array.length_toList
    rw [List.range'_succ, List.forIn_cons]
    unfold occBody
    by_cases hc : x.cps.toList[i]? = some c
    · obtain ⟨a1, a2⟩ := (subAt_one x c i).mpr hc
      rw [if_pos ⟨⟨⟨by omega, h1⟩, a1⟩, a2⟩]
      obtain ⟨hlt, he⟩ := List.getElem?_eq_some_iff.mp hc
      rw [List.drop_eq_getElem_cons hlt, he, List.count_cons_self]
      refine (occ_cnt x c n (i + 1) (st.fst.push i, i + 1) (by omega) (Nat.le_refl _) (by rw [Array.size_push]; omega)).trans ?_
      rw [Array.size_push]
      omega
    · rw [if_neg fun q => hc ((subAt_one x c i).mp ⟨q.1.2, q.2⟩)]
      refine (occ_cnt x c n (i + 1) (st.fst, st.snd) (by omega) (by show st.snd ≤ i + 1; omega) (by show st.fst.size ≤ i + 1; omega)).trans ?_
      by_cases hlt : i < x.cps.toList.length
      · rw [List.drop_eq_getElem_cons hlt, List.count_cons_of_ne]
        intro e
        exact hc (List.getElem?_eq_some_iff.mpr ⟨hlt, e⟩)
      · rw [List.drop_of_length_le (by omega), List.drop_of_length_le (by omega)]
theorem count_nl (x : Str) : Txt.count x (Str.ofString "\n") = ((x.cps.toList.count 10 : Nat) : Int) := by
  have e : Str.ofString "\n" = ⟨#[10]⟩ := by decide +kernel
  rw [e]
  unfold Txt.count
  rw [StrLaws.occ_eq, Array.length_toList, occ_cnt x 10 _ 0 _ (by omega) (Nat.le_refl _) (Nat.le_refl _)]
  rw [List.drop_zero]
  show ((0 + _ : Nat) : Int) = _
  rw [Nat.zero_add]
theorem ln_end (x : Str) : lnAt x.cps.toList (x.cps.toList.length + 1) = 1 + Txt.count x (Str.ofString "\n") := by
  rw [count_nl]
  unfold lnAt
  rw [List.take_of_length_le (by omega)]
section
variable {prog : Program} {w : World} {A : Around} {s : Shared} {Q E : Value → Shared → Prop} {x y : Str} {t u : Tok}
theorem count_any (h : ∀ c : Int, c = Txt.count x y → Q (.int c s.toks) { s with toks := s.toks + 1 }) : wpAny (model prog w) A (call (.builtin "str.count") [.str x t, .str y u]) Q E s := SC.count (h _ rfl)
structure LnEnd (z x : Str) : Prop where
  eq : ∀ c : Int, c = Txt.count x (Str.ofString "\n") → lnAt z.cps.toList (z.cps.toList.length + 1) = 1 + c
theorem lnEnd {z x : Str} (e : z = x) : LnEnd z x := ⟨fun c hc => by rw [hc, e]; exact ln_end x⟩
theorem eq_end {a b : Int} (e : a = b) (h : Q (.bool true) s) : wpAny (model prog w) A (compareOp .Eq (.int a t) (.int b u)) Q E s := by
  subst e
  refine eq_int ?_
  rw [beq_self_eq_true]
  exact h
end
end Mine
end
section
open PySem PySem.W PyProof.Rows PySem.Spec PySem.Calls
set_option linter.unusedVariables false
namespace Mine
/-- a mark: the walk stops at the next if -/
structure StopIf : Prop where
/-- the law's turn, its deed's words made, before they are written into the page -/
structure LawIfAt (g : Heap) (L it dl hl ll c1 c2 c3 c4 W : Addr) (done : List Int) (d : Int) (td : Tok) (deed : Deed) (tx : Str) (tt : Tok) (oI : Obj) (vs : List Value) (nv : Nat) (h : Heap) (o1 o2 o3 o4 : Obj) (hv lv wvs : List Value) (nh nl nW : Nat) (cols : List (Addr × Obj)) (m : Str → Option Value) : Prop where
  told : Told [(Str.ofString "text", Value.str tx tt), (Str.ofString "draws", .ref dl), (Str.ofString "laid", .ref ll), (Str.ofString "draw", .int d td), (Str.ofString "words", .ref W)] m
  F : Fr g L h m
  N : News g L h ((W, lstO wvs nW) :: (it, oI) :: (ll, lstO lv nl) :: (hl, lstO hv nh) :: (dl, lstO vs nv) :: (c4, o4) :: (c3, o3) :: (c2, o2) :: (c1, o1) :: (101, tabObj #[]) :: cols)
  e1 : o1.data = .cell (some (.ref hl))
  e2 : o2.data = .cell (some (.bool (holdD deed (heldOf done)).2))
  e3 : ∃ x, o3.data = .cell x
  e4 : ∃ x, o4.data = .cell x
  hh : SpotsOf cols hv (holdD deed (heldOf done)).1
  hlaid : SpotsOf cols lv (laidOf done ++ laidD deed)
  hw : StrV wvs deed.words
  ap : ∀ a ∈ [it, ll, dl, c1, c2, c3, c4, 101], a ≠ hl
  far : ∀ p ∈ cols, p.1 ≠ it ∧ p.1 ≠ hl ∧ p.1 ≠ ll ∧ p.1 ≠ c1 ∧ p.1 ≠ c2 ∧ p.1 ≠ c3 ∧ p.1 ≠ c4 ∧ p.1 ≠ 101
def LawIf (g : Heap) (L it dl ll c1 c2 c3 c4 : Addr) (done : List Int) (d : Int) (td : Tok) (deed : Deed) (tx : Str) (tt : Tok) (oI : Obj) (vs : List Value) (nv : Nat) (h : Heap) : Prop :=
  ∃ (hl W : Addr) (o1 o2 o3 o4 : Obj) (hv lv wvs : List Value) (nh nl nW : Nat) (cols : List (Addr × Obj)) (m : Str → Option Value), LawIfAt g L it dl hl ll c1 c2 c3 c4 W done d td deed tx tt oI vs nv h o1 o2 o3 o4 hv lv wvs nh nl nW cols m
theorem turn_merge {M : Model} {A : Around} {E : Value → Shared → Prop} {Q : Flow → Shared → Prop} {st : Shared} {stmt : Stmt} {env : Env} {g : Heap} {L it dl ll c1 c2 c3 c4 : Addr} {done : List Int} {tx : Str} {tt : Tok} {vs : List Value} {nv : Nat} {draws : List Int} {hl0 : Addr} {hp : Heap} {oI0 p1 p2 p3 p4 : Obj} {hv0 lv0 : List Value} {nh0 nl0 : Nat} {cols0 : List (Addr × Obj)} {m0 : Str → Option Value} (deed : Deed) (d : Int) (td : Tok) (oI : Obj) (J : LawAt g L it dl hl0 ll c1 c2 c3 c4 draws done hp oI0 p1 p2 p3 p4 vs hv0 lv0 nv nh0 nl0 tx tt cols0 m0)
    (h1 : wpAny M A (exec stmt env) (fun f s' => ∃ h' tk', f = .next ∧ s' = { st with heap := h', toks := tk' } ∧ LawIf g L it dl ll c1 c2 c3 c4 done d td deed tx tt oI vs nv h') E st)
    (h2 : ∀ (h' : Heap) (tk' : Nat) (hl W : Addr) (o1 o2 o3 o4 : Obj) (hv lv wvs : List Value) (nh nl nW : Nat) (cols : List (Addr × Obj)) (m : Str → Option Value), LawIfAt g L it dl hl ll c1 c2 c3 c4 W done d td deed tx tt oI vs nv h' o1 o2 o3 o4 hv lv wvs nh nl nW cols m → Q .next { st with heap := h', toks := tk' }) :
    wpAny M A (exec stmt env) Q E st :=
  wpAny_mono h1 (fun f s' q => by
    obtain ⟨h', tk', rfl, rfl, hl, W, o1, o2, o3, o4, hv, lv, wvs, nh, nl, nW, cols, m, K⟩ := q
    exact h2 h' tk' hl W o1 o2 o3 o4 hv lv wvs nh nl nW cols m K) fun _ _ q => q
theorem words_le (x : Deed) : x.words.length ≤ 4 := by
  cases x with
  | neg => decide
  | drop => exact (by decide : 3 ≤ 4)
  | lay => exact lay_wl
theorem sub_c2 {α : Type} {W a b : α} {r : List α} : ∀ p ∈ W :: r, p ∈ W :: a :: b :: r := by
  repeat' (first | (intro p hp; (repeat (first | exact hp | refine List.Mem.tail _ ?_)); done) | refine List.forall_mem_cons.mpr ⟨by repeat (first | exact List.Mem.head _ | refine List.Mem.tail _ ?_), ?_⟩)
theorem sub_f1 {α : Type} {W t q D i l h x a b c d e : α} {cols : List α} : ∀ p ∈ W :: i :: l :: h :: x :: a :: b :: c :: d :: e :: q :: D :: cols, p ∈ t :: q :: W :: D :: i :: l :: h :: x :: a :: b :: c :: d :: e :: cols := by
  repeat' (first | (intro p hp; (repeat (first | exact hp | refine List.Mem.tail _ ?_)); done) | refine List.forall_mem_cons.mpr ⟨by repeat (first | exact List.Mem.head _ | refine List.Mem.tail _ ?_), ?_⟩)
theorem sub_f2 {α : Type} {W t q q2 D i l h x a b c d e : α} {cols : List α} : ∀ p ∈ W :: i :: l :: h :: x :: a :: b :: c :: d :: e :: q :: q2 :: D :: cols, p ∈ t :: q :: q2 :: W :: D :: i :: l :: h :: x :: a :: b :: c :: d :: e :: cols := by
  repeat' (first | (intro p hp; (repeat (first | exact hp | refine List.Mem.tail _ ?_)); done) | refine List.forall_mem_cons.mpr ⟨by repeat (first | exact List.Mem.head _ | refine List.Mem.tail _ ?_), ?_⟩)
theorem sub_f3 {α : Type} {W D T q D1 i l h x : α} {r : List α} : ∀ p ∈ W :: i :: l :: D :: x :: r, p ∈ D :: W :: T :: q :: D1 :: i :: l :: h :: x :: r := by
  repeat' (first | (intro p hp; (repeat (first | exact hp | refine List.Mem.tail _ ?_)); done) | refine List.forall_mem_cons.mpr ⟨by repeat (first | exact List.Mem.head _ | refine List.Mem.tail _ ?_), ?_⟩)
end Mine
end
section
open PySem PySem.W PyProof.Rows PySem.Spec PySem.Calls
set_option Elab.async false
namespace Mine
local macro_rules | `(tactic| k_ne) => `(tactic| k_extra "k_ne")
local macro_rules | `(tactic| k_all) => `(tactic| (with_reducible assumption))
set_option pp.maxSteps 1500
set_option pp.deepTerms.threshold 5
set_option linter.unusedVariables false
set_option maxRecDepth 100000 in
set_option maxHeartbeats 8000000 in
theorem lawGo : PySem.Challenge.rw_pg0177_01.Holds := hd (by
  k_with_none
  k_with "execs cons" => (k_fold)
  k_with "k_ne" => ((refine neN ?_; (try dsimp only); (with_reducible rename Ap _ _ => apx'); first | exact Ap.ne apx' (by k_dflt k_mem) | exact Ap.ne' apx' (by k_dflt k_mem) | (clear apx'; (with_reducible rename Ap _ _ => apy'); first | exact Ap.ne apy' (by k_dflt k_mem) | exact Ap.ne' apy' (by k_dflt k_mem) | (clear apy'; (with_reducible rename Ap _ _ => apz'); first | exact Ap.ne apz' (by k_dflt k_mem) | exact Ap.ne' apz' (by k_dflt k_mem) | fail))))
  k_with "k_ne" => ((refine neN ?_); (try dsimp only); (with_reducible rename (_ < _ ∧ _) => l9'); (refine Nat.ne_of_gt ?_); (repeat (first | exact l9'.1 | exact l9' | replace l9' := l9'.2)); done)
  k_with "k_ne" => ((refine neN ?_); (try dsimp only); (with_reducible rename (_ < _ ∧ _) => l9'); (refine Nat.ne_of_lt ?_); (repeat (first | exact l9'.1 | exact l9' | replace l9' := l9'.2)); done)
  k_with "k_ne" => ((refine neN ?_); (try dsimp only); with_reducible first | assumption | (refine Ne.symm ?_; assumption))
  k_with "newTuple" => ((try ((with_reducible refine tup_tok3 ?_); intro _ _ _)); (try ((with_reducible refine tup_tok2 ?_); intro _ _)); k_dflt ((rename News _ _ _ _ => N'); (rename Fr _ _ _ _ => F'); (refine kup_newTuple F' N' ?_ (Nat.le_trans (Nat.le_of_ble_eq_true rfl : _ ≤ 1000) (by decide))); clear F' N'; intro _ _ F' N' l1; (try k_lt l1)); revert l1; intro _)
  k_with "newList" => (k_here; (first | ((with_reducible refine lst_tok1 ?_); intro _) | ((with_reducible refine lst_tok3 ?_); intro _ _ _) | ((with_reducible refine lst_tok5 ?_); intro _ _ _ _ _)); k_dflt (refine' newList_K (by k_asm) (by k_asm) ?_; k_whole); intro _ _ F' N' l1; (try k_lt l1); (try k_sweep); revert l1; intro _)
  k_with "ite" => (k_dflt (first | refine ite_pos (by with_reducible assumption) ?_ | refine ite_neg (by with_reducible assumption) ?_))
  k_with "exec For Name Call cons nil" => (refine stop_here ?_)
  k_with "subscriptTail" => (k_dflt ((with_reducible show wpAny _ _ (subscriptTail _ _ (Value.ref _) (Value.int _ _)) _ _ _); (rename Told _ _ => hs'); (rename News _ _ _ _ => N'); (refine item_word N' (List.Mem.tail _ (List.Mem.head _)) (by omega) (by omega) (by with_reducible assumption) ?_ (by with_unfolding_all rfl))))
  k_with "call ref" => (k_dflt ((with_reducible show wpAny _ _ (call (Value.ref 111) _ _) _ _ _); (rename News _ _ _ _ => N'); (rename Fr _ _ _ _ => F'); (rename Top _ _ _ _ _ _ => T'); (refine' word (Fr.keep F') (by assumption) T' (by decide) (by decide) (by omega) (by omega) (by omega) ?_); intro _ _ _ _ hb' _; (replace N' := News.pure N' hb'); (replace F' := Fr.pure F' hb'); clear hb'; (try dsimp only)))
  k_with "call builtin:len" => ((with_reducible rename StrV _ _ => hs'); k_dflt ((rename News _ _ _ _ => N'); (refine len_word N' hs' (by k_mem) (by omega) ?_)))
  k_with "call builtin:len" => ((with_reducible rename SpotsOf _ _ _ => hs'); k_dflt ((rename News _ _ _ _ => N'); (refine len_spots N' hs' (by k_mem) (by omega) ?_)))
  k_with "call ref" => ((with_reducible rename BaseOk _ _ => hs'); (with_reducible show wpAny _ _ (call (Value.ref 106) _ _) _ _ _); refine stop_here ?_)
  k_with "call ref" => ((with_reducible rename ReadSpec _ _ _ => hs'); (with_reducible show wpAny _ _ (call (Value.ref 95) _ _) _ _ _); refine stop_here ?_)
  k_with "call ref" => ((with_reducible rename LexOk _ _ => hs'); (with_reducible show wpAny _ _ (call (Value.ref 130) _ _) _ _ _); refine stop_here ?_)
  k_with "call ref" => ((with_reducible rename LexOk _ _ => hs'); (with_reducible show wpAny _ _ (call (Value.ref 85) _ _) _ _ _); refine stop_here ?_)
  k_with "call builtin:len" => ((with_reducible rename IntsV _ _ => hs'); k_dflt ((rename News _ _ _ _ => N'); (refine len_ints N' hs' (by k_mem) (by omega) ?_)))
  k_with "call ref" => (k_dflt ((with_reducible show wpAny _ _ (call (Value.ref 118) _ _) _ _ _); (rename News _ _ _ _ => N'); (rename Fr _ _ _ _ => F'); (rename Top _ _ _ _ _ _ => T'); (refine' colHlsT (Fr.keep F') (by assumption) T' (by decide) (by decide) (by assumption) (by exact (N' (_, _) (by k_mem)).1) ?_); intro _ _ _ _ _ _ _ hb' hn' hq' _; have ap' := Ap.of N' hn'; (replace N' := News.more F' (News.pure N' hb') hn' hq'); (replace F' := Fr.pure F' hb'); clear hb' hn' hq'; (try dsimp only)); revert ap'; intro _)
  k_with "binaryOp Div int int" => (k_dflt (refine wIDiv (by with_reducible assumption) ?_))
  k_with "compareOp NotEq ref ref" => ((with_reducible rename DivIs _ _ _ => hs'); refine stop_here ?_)
  k_with "CompSrc" => (refine stop_here ?_)
  k_with "subscriptTail Name Slice ref ref" => (k_here; (with_reducible show wpAny _ _ (subscriptTail _ (PySem.Expr.Slice _ _ (some _) _) (Value.ref _) (Value.ref _)) _ _ _); (k_dflt (refine' krv_lit (by k_asm) (by k_asm) (by exact News.isList (by k_asm) (by k_mem)) (by kmk_part) (by exact rfl) ?_ (by with_unfolding_all rfl) (by kmk_pure) (by exact small_sz (by omega)))); intro _ _ F' N' l1; (try k_lt l1); revert l1; intro _)
  k_with "compareOp NotEq ref ref" => ((with_reducible rename ColsOf _ _ _ => hs'); refine stop_here ?_)
  k_with "exec If" => ((with_reducible rename SpotsOf _ _ _ => hs'); refine stop_here ?_)
  k_with "exec If" => ((with_reducible rename StopIf => hs'); refine stop_here ?_)
  k_with "SrcLP" => (refine stop_here ?_)
  k_with "call builtin:sorted" => ((with_reducible rename SpotsOf _ _ _ => hs'); refine stop_here ?_)
  k_with "FinA" => ((unfold LCg.FinA); intro _ _ _ F' N' o1'; have ap' := Ap.mk (Off1.mem o1'); (try dsimp only); revert o1' ap'; intro _ _)
  k_with "subscriptTail" => (k_dflt ((with_reducible show wpAny _ _ (subscriptTail _ _ (Value.ref _) (Value.int _ _)) _ _ _); (with_reducible rename SpotsOf _ _ _ => hs'); (rename News _ _ _ _ => N'); (refine item_at N' (by k_mem) (by omega) (by omega) (by with_reducible assumption) ?_ (by with_unfolding_all rfl))))
  k_with "exec Assign cons ListComp" => ((with_reducible rename SpotsOf _ _ _ => hs'); (with_reducible show wpAny _ _ (exec (Stmt.Assign _ (PySem.Expr.ListComp _ [⟨PySem.Expr.Tuple _ _ _, _, _, _⟩] _ _) _) _) _ _ _); refine stop_here ?_)
  k_with "inplaceOp Add ref ref" => (k_dflt ((rename News _ _ _ _ => N'); (rename Fr _ _ _ _ => F'); (refine' iadd_K (ws := [_, _]) F' N' (List.Mem.head _) (by k_upd) (by exact Nat.succ_ne_zero _) (by (simp only [List.length_cons, List.length_nil]; omega)) ?_); clear F' N'; intro _ F' N'))
  k_with "inplaceOp Add str str" => (k_dflt (refine PyProof.Rows.iadd_str (fun t' tk' => ?_) (line_enc (by with_reducible assumption) (by with_reducible assumption) (by with_reducible assumption))))
  k_with "eval ListComp" => ((with_reducible rename Spot.ok _ => ok'); (with_reducible show wpAny _ _ (eval (PySem.Expr.ListComp _ [⟨_, _, [], _⟩] _ _) _) _ _ _); k_dflt (refine ListComp_tup (F₀ := by k_asm) (by rfl) (by decide) (by rfl) (by decide) (by rfl) ?_))
  k_with "binaryOp Add ref ref" => (k_dflt ((with_reducible rename StrV _ _ => hs'); (rename News _ _ _ _ => N'); (rename Fr _ _ _ _ => F'); (refine' addL F' N' (by exact (N' _ (List.Mem.tail _ (List.Mem.head _))).1) (by exact (N' _ (List.Mem.head _)).1) (by (simp only [List.length_cons, List.length_nil]; omega)) ?_); clear F' N'; intro _ _ _ F' N' l1; have ap' := Ap.mk (ne_all l1); (try k_lt l1); (simp only [List.cons_append, List.nil_append] at N')); revert l1 ap'; intro _ _)
  k_with "exec If" => ((with_reducible rename StrV _ _ => hs'); refine stop_here ?_)
  k_with "CompSrcT" => (refine stop_here ?_)
  k_with "CompEnd" => (refine stop_here ?_)
  k_with "FinE" => ((unfold LCg.FinE); intro _ _ _ F' N' o1'; have ap' := Ap.mk (Off1.mem o1'); (try dsimp only); revert o1' ap'; intro _ _)
  k_with "Exists" => (refine stop_here ?_)
  k_with "exec For Name Name cons nil" => (refine stop_here ?_)
  k_with "binaryOp Add ref ref" => (k_dflt ((rename CarriedAll _ _ => hCa'); (rename News _ _ _ _ => N'); (rename Fr _ _ _ _ => F'); (refine' addD F' N' (by exact List.Mem.tail _ (List.Mem.head _)) (by assumption) (by (have hz1 := CarriedAll.length_eq hCa'; simp only [List.length_map] at hz1; have hz2 := List.length_filter_le (fun _ : Int => true) (List.take 5 ‹List Int›); rw [hz1]; show 5 + _ ≤ 1000; have hz3 := List.length_take_le 5 ‹List Int›; omega)) ?_); clear F' N'; intro _ _ _ F' N' l1; (try k_lt l1)); revert l1; intro _)
  k_with "getMethod str" => (k_dflt ((with_reducible show wpAny _ _ (getMethod (Value.str _ _) (Str.ofString "count") _) _ _ _); (with_reducible refine GM.count ?_)))
  k_with "call builtin:str.count" => (k_dflt ((with_reducible show wpAny _ _ (call (Value.builtin "str.count") [Value.str _ _, Value.str _ _]) _ _ _); (refine count_any ?_); intro _ _))
  k_with "compareOp Eq int int" => ((with_reducible rename LnEnd _ _ => hle'); (with_reducible rename _ = Txt.count _ _ => hcn'); refine eq_end (hle'.eq _ hcn') ?_)
  k_with "call ref" => (k_dflt ((with_reducible show wpAny _ _ (call (Value.ref 137) _ _) _ _ _); (rename News _ _ _ _ => N'); (rename Fr _ _ _ _ => F'); (rename Top _ _ _ _ _ _ => T'); (refine' lawParts (Fr.keep F') (by assumption) T' (by decide) (by decide) (by assumption) (by exact (N' (_, _) (by k_mem)).1) ?_); intro _ _ _ _ _ _ _ hb' hn' hq'; have ap' := Ap.of N' hn'; (replace N' := News.more F' (News.pure N' hb') hn' hq'); (replace F' := Fr.pure F' hb'); clear hb' hn' hq'; (try dsimp only)); revert ap'; intro _)
  k_with "call ref" => (k_dflt ((with_reducible show wpAny _ _ (call (Value.ref 144) _ _) _ _ _); (rename News _ _ _ _ => N'); (rename Fr _ _ _ _ => F'); (rename Top _ _ _ _ _ _ => T'); (refine' lawOver (Fr.keep F') (by assumption) T' (by decide) (by decide) (by assumption) (by exact (N' (_, _) (by k_mem)).1) ?_); intro _ _ _ _ _ _ _ hb' hn' hq'; have ap' := Ap.of N' hn'; (replace N' := News.more F' (News.pure N' hb') hn' hq'); (replace F' := Fr.pure F' hb'); clear hb' hn' hq'; (try dsimp only)); revert ap'; intro _)
  k_go0
  all_goals try k_fold
  k_steps
  refine stop_out ?_
  refine wpAny_For ?_
  k_steps
  rename News _ _ _ _ => N
  rename Fr _ _ _ _ => F
  rename CarriedAll _ _ => hca
  refine listIter_K F N (N _ (List.Mem.tail _ (List.Mem.tail _ (List.Mem.head _)))).1 ?_
  intro it oI h0 hoI F0 N0 lit
  (try k_lt lit)
  rename List Int => ns
  rename_i I hI7 nI lI h6 tk6 h5 hl h4 lhl h3 oh dh tk3 ll h2 lll h1 h0' oo dd
  refine' law_loop (dl := I) (ll := ll) (draws := drawsOf ns) rfl ?hc ?J0 ?turn ?fin (by intro _; rfl)
  case hc => exact ⟨lI.2.2.2.2.2.1, lI.2.2.2.2.1, lI.2.2.2.1, lI.2.2.1, lI.2.2.2.2.2.2⟩
  case J0 =>
    exact ⟨hl, oI, oh, oo, _, _, _, [], [], nI, 0, 0, _, _, [], _, ⟨⟨drawsOf ns, rfl⟩, hoI, told_cons rfl (told_cons rfl (told_cons rfl told_nil)), F0, fun p hp => N0 p (law_sub p hp), draws_ints hca, dh, dd, ⟨_, by assumption⟩, ⟨_, by assumption⟩, trivial, trivial, by decide +kernel, Nat.zero_le _, ⟨by k_ne, lit.2.2.1, lll.2.1⟩, List.forall_mem_cons.mpr ⟨by k_ne, List.forall_mem_cons.mpr ⟨by k_ne, List.forall_mem_cons.mpr ⟨by k_ne, List.forall_mem_cons.mpr ⟨by k_ne, List.forall_mem_cons.mpr ⟨by k_ne, List.forall_mem_cons.mpr ⟨by k_ne, List.forall_mem_cons.mpr ⟨by k_ne, List.forall_mem_cons.mpr ⟨by k_ne, List.forall_mem_nil _⟩⟩⟩⟩⟩⟩⟩⟩, List.forall_mem_nil _⟩⟩
  case fin =>
    clear F0 N0 F N hca
    rename NewPlain _ _ _ _ => hnp
    clear hnp
    intro hl o1 o2 o3 o4 vs hv lv nv nh nl tx tt cols m h h' tk hJ F N
    obtain ⟨oI, J⟩ := hJ
    replace F := Fr.named _ F J.told
    dsimp only [nm] at F
    have e1 := J.e1
    have e2 := J.e2
    rename Hook.says _ _ _ => hY
    clear hY
    rename TabsAt _ _ => hY
    clear hY
    rename Dflts _ _ _ _ _ _ => hY
    clear hY
    rename CellsAre _ _ _ => hY
    clear hY
    have hsh := J.hh
    have hhl := hsh.length
    have hhm := held_len (drawsOf ns)
    have hdm := (draws_ok ns).2.2
    have hvm : hv.length ≤ 10 := by omega
    k_steps
    refine stop_out ?_
    refine LCp.Assign_ListComp_P F (by rfl) (by with_unfolding_all rfl) (by with_unfolding_all rfl) (by decide) (by rfl) (by decide) (by rfl) (by rfl) (by decide) (by rfl) (by rfl) ?_
    k_steps
    refine stop_out ?_
    rename News _ _ _ _ => N
    rename Fr _ _ _ _ => F
    rename IsRange _ _ _ _ _ _ _ _ => hrg
    rename SpotsOf _ _ _ => hsh
    have hsr := small_range (c := (hv.length : Int)) (by omega) (by omega)
    refine LCg.CompSrc.range (n := hv.length) rfl F N hrg hsr.1 hsr.2 (Nat.le_trans hvm (by decide)) (fun g0 => ?_)
    clear F N
    refine pairs_comp hsh (fun p hp => by repeat (first | exact hp | refine List.Mem.tail _ ?_)) ?pt ?pf
    case pt =>
      intro i ti t y t1 t2 t3 n ys rest hi hvi hin hm IA oI C oC D m₂ h tk E' hC hx F N
      replace N := news_dup N (.tail _ (.tail _ (.tail _ hm)))
      replace N := news_dup N (.tail _ (.tail _ (.tail _ (.tail _ (hin (hl, lstO hv nh) (by k_mem))))))
      replace N := news_dup N (.tail _ (.tail _ (.tail _ (.tail _ (.tail _ (hin (_, o1) (by k_mem)))))))
      have hvi2 : hv[((0 : Int) + (i : Int)).toNat]? = some (.ref t) := by rw [Int.zero_add]; exact hvi
      k_steps
      refine stop_out ?_
      rename News _ _ _ _ => N
      rename Fr _ _ _ _ => F
      exact ⟨_, _, _, _, _, _, rfl, rfl, F, fun p hp => N p (sub_w0 p hp), by k_ne, by k_ne, by k_ne⟩
    case pf =>
      intro ys cs hyl hpairs
      k_steps
      refine stop_out ?_
      rename News _ _ _ _ => N
      rename Fr _ _ _ _ => F
      rename SpotsOf _ _ _ => hsh
      refine sorted_pairs F N (.head _) hpairs (fun p hp => .tail _ (List.mem_append_left _ hp)) (by omega) ?_
      clear F N
      intro Ds ns' h' p F N l1 hP hS
      k_steps
      refine stop_out ?_
      rename News _ _ _ _ => N
      rename Fr _ _ _ _ => F
      have hpl : (p.toList.map fun i => ys.getD i Value.none).length ≤ 1000 := by rw [List.length_map, Array.length_toList, hP.size]; omega
      refine LCp.SrcLP.ledger rfl F N (.head _) (line_of hpl) (fun g0 => ?_)
      clear F N
      refine due_comp hP hpairs (fun q hq => .tail _ (.tail _ (List.mem_append_left _ hq))) hsh hyl (fun q hq => .tail _ (.tail _ (List.mem_append_right _ (by repeat (first | exact hq | refine List.Mem.tail _ ?_))))) (.inr ⟨_, .head _, rfl, _, rfl⟩) ?dt ?df
      case dt =>
        intro k t u1 u2 zs hk hvk IA oI C oC D m₂ h tk E' hC hx hx2 F N
        replace N := news_dup N (.tail _ (.tail _ (.tail _ (.tail _ (.tail _ (List.mem_append_right _ (by k_mem : (hl, lstO hv nh) ∈ _)))))))
        replace N := news_dup N (.tail _ (.tail _ (.tail _ (.tail _ (.tail _ (.tail _ (List.mem_append_right _ (by k_mem : (_, o1) ∈ _))))))))
        have hvi2 : hv[((k : Int)).toNat]? = some (.ref t) := hvk
        k_steps
        refine stop_out ?_
        rename News _ _ _ _ => N
        rename Fr _ _ _ _ => F
        exact ⟨_, _, rfl, rfl, F, fun p hp => N p (.tail _ (.tail _ hp))⟩
      case df =>
        intro zs hz
        k_steps
        refine stop_out ?_
        rename News _ _ _ _ => N
        rename Fr _ _ _ _ => F
        replace N := news_sub N sub_due
        refine due_merge (cols := cols) [(Str.ofString "draws", Value.ref I), (Str.ofString "text", .str tx tt), (Str.ofString "laid", .ref ll)] (turned (heldOf (drawsOf ns)).2 (p.toList.map fun i => (heldOf (drawsOf ns)).1.getD i zS)) N ?dm1 ?dm2
        case dm1 =>
          rename SpotsOf _ _ _ => hz
          have hz2 : SpotsOf _ _ _ ∧ True := ⟨hz, trivial⟩
          clear hz
          (try (rename SpotsOf _ _ _ => hz3; clear hz3))
          (try (rename SpotsOf _ _ _ => hz3; clear hz3))
          have hzl : zs.length = hv.length := by rw [hz2.1.length, List.length_map, Array.length_toList (xs := p), hP.size]; exact hyl
          cases hodd : (heldOf (drawsOf ns)).2 with
          | false =>
            rw [hodd] at e2
            k_steps
            refine stop_out ?_
            rename News _ _ _ _ => N
            rename Fr _ _ _ _ => F
            exact ⟨_, _, _, _, zs, [], _, rfl, rfl, told_cons rfl (told_cons rfl (told_cons rfl (told_cons rfl told_nil))), F, N, hz2.1, List.forall_mem_nil _⟩
          | true =>
            rw [hodd] at e2
            k_steps
            refine stop_out ?_
            rename News _ _ _ _ => N
            rename Fr _ _ _ _ => F
            refine LCg.CompSrc.ledger rfl F N (.head _) (small_sz (vs := zs.reverse) (by rw [List.length_reverse, hzl]; omega)) (fun g0 => ?_)
            clear F N
            refine map_comp (fun y o => ∃ t1 t2 t3 n, o = tupO [.int y.over.h t1, .int y.over.l t2, .int y.over.s t3] n) 101 (SpotsOf.reverse hz2.1) (fun p hp => by repeat (first | exact hp | refine List.Mem.tail _ ?_)) (fun cs => .inr ⟨_, List.mem_append_right _ (.head _), rfl, _, rfl⟩) ?ot ?of
            case ot =>
              intro t y t1 t2 t3 n ys rest oky hin hm IA oI C oC D m₂ h tk E' hC hx F N
              replace N := news_dup N (.tail _ (.tail _ (.tail _ hm)))
              replace N := news_dup N (.tail _ (.tail _ (.tail _ (.tail _ (hin (101, tabObj #[]) (by k_mem))))))
              k_steps
              refine stop_out ?_
              rename News _ _ _ _ => N
              rename Fr _ _ _ _ => F
              exact ⟨_, _, _, _, rfl, rfl, ⟨_, _, _, _, rfl⟩, F, fun p hp => N p (sub_2 p hp), by k_ne, by k_ne, by k_ne, by k_ne⟩
            case of =>
              intro ys cs hall h101
              k_steps
              refine stop_out ?_
              rename News _ _ _ _ => N
              rename Fr _ _ _ _ => F
              exact ⟨_, _, _, _, ys, cs, _, rfl, rfl, told_cons rfl (told_cons rfl (told_cons rfl (told_cons rfl told_nil))), F, fun p hp => N p (sub_rev p hp), SpotsOf.mono (fun p hp => List.mem_append_left _ hp) hall.spots, h101⟩
        case dm2 =>
          intro h' tk' D nD dv cs m' hm F N hdue h101
          replace F := Fr.named _ F hm
          dsimp only [nm] at F
          have hl2 := SpotsOf.mono (fun p hp => List.mem_append_right cs hp) J.hlaid
          have hbase := base_ok N h101 fun p hp => (J.far p hp).2.2.2.2.2.2.2
          have hiv := J.iv
          have hvl := hiv.len
          have htl := J.tlen
          rename Top _ _ _ _ _ _ => T0
          rename Frag.In _ _ => X0
          k_steps
          refine stop_out ?_
          rename News _ _ _ _ => N
          rename Fr _ _ _ _ => F
          rename BaseOk _ _ => hbase
          refine file_step F N hbase.tab hbase.h X0 T0 codeHd (by decide) (by decide) (by omega) ?_
          clear F N hbase
          generalize cs ++ cols = tl at hdue hl2
          have hkeep := And.intro hdue hl2
          clear hdue hl2
          (try (rename SpotsOf _ _ _ => hz3; clear hz3))
          (try (rename SpotsOf _ _ _ => hz3; clear hz3))
          (try (rename SpotsOf _ _ _ => hz3; clear hz3))
          have hdl : dv.length ≤ 10 := by rw [hkeep.1.length, turned_len, List.length_map, Array.length_toList (xs := p), hP.size]; omega
          intro Fl h' tk' t ps F N N1 O Dd Fn R hlt hct
          replace N := news_put N N1
          replace hlt := lt_put (q := (101, tabObj ps)) hlt hct
          replace hkeep := And.intro (SpotsOf.mono (fun p hp => List.Mem.tail (101, tabObj ps) hp) hkeep.1) (SpotsOf.mono (fun p hp => List.Mem.tail (101, tabObj ps) hp) hkeep.2)
          have h101m : (101, tabObj ps) ∈ (101, tabObj ps) :: tl := .head _
          clear N1 hct
          generalize (101, tabObj ps) :: tl = tl at hkeep hlt h101m N
          k_steps
          refine stop_out ?_
          rename ReadSpec _ _ _ => R
          rename News _ _ _ _ => N
          rename Fr _ _ _ _ => F
          refine lex_step F N X0 T0 (by decide) (by decide) O Dd Fn R (by omega) ?_
          clear F N R
          intro Z h' tk' t0 t1 t2 Y hZx hZF F N
          rw [← hZF] at hlt
          dsimp only [core, List.cons_append, List.nil_append] at N
          k_steps
          refine stop_out ?_
          rename LexOk _ _ => Y
          rename News _ _ _ _ => N
          rename Fr _ _ _ _ => F
          refine run_step (Z := Z) (np := 0) (k := 0) (n0 := 0) (t0 := t0) (t1 := t1) (t2 := t2) (base := (D, lstO dv nD) :: (ll, lstO lv nl) :: (I, lstO vs nv) :: tl) (ds := (drawsOf ns).map deedOf) F N hlt X0 T0 (by decide) (by decide) Y (by rw [hZx, J.htx]; exact page_reads _) (fun d hd => by obtain ⟨x, _, rfl⟩ := List.mem_map.mp hd; exact deed_ok x) (fun e => by have q := (draws_ok ns).2.1; rw [List.map_eq_nil_iff.mp e] at q; exact absurd q (by decide)) (by rw [List.length_map, hvl]) (by omega) (by rw [hZx, Array.length_toList]; exact Nat.le_trans htl (by omega)) ?_
          clear F N
          intro row rvs rn rcs h' tk' np n0 t0 t1 t2 v tr F N hC hv0
          replace N := news_sub N sub_run
          dsimp only [core, List.cons_append, List.nil_append] at N
          k_steps
          refine stop_out ?_
          rename News _ _ _ _ => N
          rename Fr _ _ _ _ => F
          rename ColsOf _ _ _ => hC
          refine LCg.CompSrc.ledger (k := nD) rfl F N (by k_mem) (line_of (by omega)) (fun g0 => ?_)
          clear F N
          refine map_comp (fun y o => ∃ t1 t2 t3 n, o = tupO [.int y.p0 t1, .int y.p1 t2, .int y.p2 t3] n) row hkeep.1 (fun p hp => by repeat (first | exact List.mem_append_right _ hp | refine List.Mem.tail _ ?_)) (fun cs => .inr ⟨_, List.mem_append_right _ (by k_mem), rfl, _, rfl⟩) ?pt2 ?pf2
          case pt2 =>
            intro t y t1 t2 t3 n ys rest oky hin hm IA oI C oC D2 m₂ h tk E' hC' hx F N
            replace N := news_dup N (.tail _ (.tail _ (.tail _ hm)))
            replace N := news_dup N (.tail _ (.tail _ (.tail _ (.tail _ (hin (row, lstO rvs rn) (.head _))))))
            k_steps
            refine stop_out ?_
            rename News _ _ _ _ => N
            rename Fr _ _ _ _ => F
            exact ⟨_, _, _, _, rfl, rfl, ⟨_, _, _, _, rfl⟩, F, fun p hp => N p (sub_2 p hp), by k_ne, by k_ne, by k_ne, by k_ne⟩
          case pf2 =>
            intro ys2 cs2 hall hne2
            have heq := row_due (by omega) hP hS
            k_steps
            refine stop_out ?_
            rename News _ _ _ _ => N
            rename Fr _ _ _ _ => F
            rename ColsOf _ _ _ => hC
            refine rows_ne N (.tail _ (List.mem_append_right _ (.head _))) hC (fun p hp => .tail _ (List.mem_append_right _ (by repeat (first | exact List.mem_append_left _ hp | refine List.Mem.tail _ ?_)))) (.head _) (by rw [heq]; exact hall.cols) (fun p hp => .tail _ (List.mem_append_left _ hp)) (by dsimp only [Around.deeper]; decide) ?_
            k_steps
            refine stop_out ?_
            refine wpAny_For ?_
            k_steps
            rename News _ _ _ _ => N
            rename Fr _ _ _ _ => F
            refine listIter_K F N (N (ll, lstO lv nl) (.tail _ (List.mem_append_right _ (by k_mem)))).1 ?_
            clear F N
            intro it oI h1 hoI F N l1
            have hn := ne_all l1
            refine spots_loop (ll := ll) (nl := nl) [(Str.ofString "lexer", Value.ref Z.lx), (Str.ofString "text", .str tx tt)] rfl hkeep.2 F N hoI (.tail _ (List.mem_append_right _ (by k_mem))) (fun p hp => .tail _ (List.mem_append_right _ (by repeat (first | exact List.mem_append_right _ hp | refine List.Mem.tail _ ?_)))) hn (told_cons rfl (told_cons rfl told_nil)) ?slt ?slf (by intro _; rfl)
            case slt =>
              clear F N hC hall heq hn
              intro t y t1 t2 t3 n m h tk oI' oky hm F N
              replace F := Fr.named _ F hm
              dsimp only [nm] at F
              obtain ⟨y1, y2, y3, y4, y5, y6⟩ := id oky
              have dv1 := div_hue (n := y.h) ⟨y1, y2⟩
              have dv2 := div_light (n := y.l) ⟨y3, y4⟩
              have dv3 := div_share (n := y.s) ⟨y5, y6⟩
              have dv4 : DivIs 0 64 0 := div_hue (n := 0) ⟨by omega, by omega⟩
              have dv5 : DivIs 0 8 0 := div_share (n := 0) ⟨by omega, by omega⟩
              k_steps
              all_goals (refine stop_out ?_)
              all_goals (rename News _ _ _ _ => N)
              all_goals (rename Fr _ _ _ _ => F)
              all_goals (rename Top _ _ _ _ _ _ => T0)
              all_goals (rename Frag.In _ _ => X0)
              all_goals (rename DivIs _ _ _ => dv5)
              all_goals first
                | (have e1 : y.hq = 32 * y.h := if_neg (by assumption)
                   have e3 : y.sq = 256 * y.s := if_neg (by assumption)
                   rw [e1, e3] at N
                   refine ftup_ne (x := fq (32 * y.h)) (y := fq (128 * y.l)) (z := fq (256 * y.s)) ⟨_, (N _ (.tail _ (.head _))).1, rfl, _, rfl⟩ ⟨_, (N _ (.head _)).1, rfl, _, rfl⟩ (by assumption) ⟨Nat.succ_ne_zero _, Nat.succ_ne_zero _, Nat.succ_ne_zero _⟩ (booked X0 T0 F.keep) (fq_self dv1.2.2.2.1) (fq_self dv2.2.2.2.1) (fq_self dv3.2.2.2.1) (by dsimp only [Around.deeper]; decide) ?_)
                | (have e1 : y.hq = 0 := if_pos (by assumption)
                   have e3 : y.sq = 0 := if_pos (by assumption)
                   rw [e1, e3] at N
                   refine ftup_ne (x := fq 0) (y := fq (128 * y.l)) (z := fq 0) ⟨_, (N _ (.tail _ (.head _))).1, rfl, _, rfl⟩ ⟨_, (N _ (.head _)).1, rfl, _, rfl⟩ (by assumption) ⟨Nat.succ_ne_zero _, Nat.succ_ne_zero _, Nat.succ_ne_zero _⟩ (booked X0 T0 F.keep) (fq_self dv4.2.2.2.1) (fq_self dv2.2.2.2.1) (fq_self dv5.2.2.2.1) (by dsimp only [Around.deeper]; decide) ?_)
              all_goals k_steps
              all_goals (refine stop_out ?_)
              all_goals (rename News _ _ _ _ => N)
              all_goals (rename Fr _ _ _ _ => F)
              all_goals exact ⟨_, _, rfl, _, told_cons rfl (told_cons rfl told_nil), F, fun p hp => N p (by first | exact .tail _ (.tail _ (.tail _ (.tail _ hp))) | exact .tail _ (.tail _ (.tail _ (.tail _ (.tail _ hp)))))⟩
            case slf =>
              clear F N hn l1
              intro m h tk hm F N
              replace F := Fr.named _ F hm
              dsimp only [nm] at F
              rename World => w0
              have Nc : News _ _ h (core w0.params Z [.str v tr] np (Z.x.cps.toList.length + 1) n0 t0 t1 t2 ++ [(101, tabObj ps)]) := fun q hq => (List.mem_append.mp hq).elim (fun hq => N q (.tail _ (List.mem_append_right _ (.tail _ (List.mem_append_left _ hq))))) (fun hq => by rw [List.mem_singleton.mp hq]; exact N _ (.tail _ (List.mem_append_right _ (.tail _ (by repeat (first | exact List.mem_append_right _ h101m | refine List.Mem.tail _ ?_))))))
              clear N
              have hle := lnEnd hZx
              have ev : v = Str.ofString "" := str_ext (by rw [hv0]; decide +kernel)
              subst ev
              dsimp only [core, lexDO, List.cons_append, List.nil_append] at Nc
              k_steps
              refine stop_out ?_
              rename LexOk _ _ => Y
              rename News _ _ _ _ => N
              rename Fr _ _ _ _ => F
              rename Top _ _ _ _ _ _ => T0
              rename Frag.In _ _ => X0
              refine pop_step (base := [(101, tabObj ps)]) F N (fun q hq => by rw [List.mem_singleton.mp hq]; exact hlt _ (.tail _ (.tail _ (.tail _ h101m)))) X0 T0 (by decide) (by decide) Y ?_
              clear F N
              intro h tk np t F N
              dsimp only [core, lexDO, List.cons_append, List.nil_append] at N
              k_steps
  clear F0 N0 F N
  intro d done todo td hl oI oI' o1 o2 o3 o4 vs hv lv nv nh nl tx tt cols m h h' tk hsp J hI' F N
  replace F := Fr.named _ F J.told
  dsimp only [nm] at F
  have ok := spot_ok d
  have e1 := J.e1
  have e2 := J.e2
  obtain ⟨x3, e3⟩ := J.e3
  obtain ⟨x4, e4⟩ := J.e4
  clear hca
  rename NewPlain _ _ _ _ => hnp
  clear hnp
  rename Hook.says _ _ _ => hY
  clear hY
  rename TabsAt _ _ => hY
  clear hY
  rename Ground _ _ _ _ _ _ _ _ _ => hY
  clear hY
  rename Dflts _ _ _ _ _ _ => hY
  clear hY
  rename CellsAre _ _ _ => hY
  clear hY
  obtain ⟨n2, n4, n6⟩ := J.nit
  replace n2 := neN n2; replace n4 := ltN n4; replace n6 := ltN n6
  have z1 := neN (J.ap it (.head _))
  have z2 := neN (J.ap ll (.tail _ (.head _)))
  have z3 := neN (J.ap I (.tail _ (.tail _ (.head _))))
  have z4 := neN (J.ap _ (.tail _ (.tail _ (.tail _ (.head _)))))
  have z5 := neN (J.ap _ (.tail _ (.tail _ (.tail _ (.tail _ (.head _))))))
  have z6 := neN (J.ap _ (.tail _ (.tail _ (.tail _ (.tail _ (.tail _ (.head _)))))))
  have z7 := neN (J.ap _ (.tail _ (.tail _ (.tail _ (.tail _ (.tail _ (.tail _ (.head _))))))))
  have z8 := neN (J.ap _ (.tail _ (.tail _ (.tail _ (.tail _ (.tail _ (.tail _ (.tail _ (.head _)))))))))
  have a1 : ∀ p ∈ cols, p.1 ≠ it := fun p hp => (J.far p hp).1
  have a2 : ∀ p ∈ cols, p.1 ≠ hl := fun p hp => (J.far p hp).2.1
  have a3 : ∀ p ∈ cols, p.1 ≠ ll := fun p hp => (J.far p hp).2.2.1
  have b1 : ∀ p ∈ cols, p.1 ≠ _ := fun p hp => (J.far p hp).2.2.2.2.2.2.1
  have b2 : ∀ p ∈ cols, p.1 ≠ _ := fun p hp => (J.far p hp).2.2.2.2.2.1
  have b3 : ∀ p ∈ cols, p.1 ≠ _ := fun p hp => (J.far p hp).2.2.2.2.1
  have b4 : ∀ p ∈ cols, p.1 ≠ _ := fun p hp => (J.far p hp).2.2.2.1
  have htxl : tx.length ≤ 3000 := by
    have q1 := J.tlen
    have q2 := congrArg List.length hsp
    have q3 := (draws_ok ns).2.2
    rw [List.length_append, List.length_cons] at q2
    omega
  have hd0 : 0 ≤ d ∧ d < 940032 := (draws_ok ns).1 d (by rw [hsp]; exact List.mem_append_right _ (.head _))
  obtain ⟨deed, hde⟩ : ∃ x, deedOf d = x := ⟨_, rfl⟩
  have sx : StopIf := .mk
  k_steps
  refine stop_out ?_
  rename StopIf => sx
  clear sx
  rename News _ _ _ _ => N
  rename Fr _ _ _ _ => F
  refine turn_merge deed d td oI' J ?mi ?mr
  case mr =>
    clear F N
    clear ok
    intro h' tk' hl2 W p1 p2 p3 p4 hv2 lv2 wvs nh2 nl2 nW cols2 m2 K
    clear e1 e2 e3 e4 z1 z2 z3 z4 z5 z6 z7 z8 a1 a2 a3 b1 b2 b3 b4
    have F := Fr.named _ K.F K.told
    dsimp only [nm] at F
    have N := K.N
    have hsv := K.hw
    have hw4 := StrV.le hsv (words_le _)
    k_steps
    refine stop_out ?_
    refine wpAny_For ?_
    k_steps
    rename StrV _ _ => hsv
    rename News _ _ _ _ => N
    rename Fr _ _ _ _ => F
    rename IsRange _ _ _ _ _ _ _ _ => hrg
    refine rangeIter_K F N hrg (by omega) (by omega) ?_
    clear F N
    intro iw h1' F N l1
    have hn := ne_all l1
    (try k_lt l1)
    have hd78 := fd_nn hd0.1
    refine' words_loop (wvs := wvs) (ws := deed.words) (e := d.fdiv 78336) (nm0 := Str.ofString "text") (cl := [(Str.ofString "draws", Value.ref I), (Str.ofString "laid", .ref ll), (Str.ofString "draw", .int d td), (Str.ofString "words", .ref _)]) rfl F N (told_cons rfl (told_cons rfl (told_cons rfl (told_cons rfl (told_cons rfl told_nil))))) hn hsv (words_le _) htxl ?twn ?fwn (by intro _; rfl)
    case twn =>
      clear F N
      intro i x t l tx tt m h tk ex hi ex2 hx ht hm F N
      have ex' : (_ : List Value)[((i : Int)).toNat]? = some (.str x t) := ex
      have hxl : x.cps.toList.length ≤ 20 := by rw [Array.length_toList]; exact hx
      replace F := Fr.named _ F hm
      dsimp only [nm] at F
      k_steps
      refine stop_out ?_
      rename News _ _ _ _ => N
      rename Fr _ _ _ _ => F
      rename _ = encW _ _ => hr
      exact ⟨_, _, rfl, _, _, _, told_cons rfl (told_cons rfl (told_cons rfl (told_cons rfl (told_cons rfl told_nil)))), F, N, app_enc hr ex2⟩
    case fwn =>
      clear F N
      intro tx tt m h tk hm F N ex hlen
      replace F := Fr.named _ F hm
      dsimp only [nm] at F
      k_steps
      refine stop_out ?_
      rename News _ _ _ _ => N
      rename Fr _ _ _ _ => F
      exact ⟨_, _, rfl, _, _, _, _, _, _, _, _, _, _, _, _, _, _, _, _, law_end hde hsp hI' (told_cons rfl (told_cons rfl (told_cons rfl told_nil))) F N (fun _ hp => .tail _ hp) J.iv K.e1 K.e2 K.e3 K.e4 K.hh K.hlaid (by rw [ex, J.htx]) (Nat.le_trans hlen (Nat.add_le_add_right J.tlen _)) J.nit K.ap K.far⟩
  by_cases hn1 : (d.fmod 4 == 1) = true
  · have hdl : deed = .neg := hde.symm.trans (deed_neg hn1)
    subst hdl
    k_steps
    refine stop_out ?_
    rename News _ _ _ _ => N
    rename Fr _ _ _ _ => F
    exact ⟨_, _, rfl, rfl, hl, _, o1, _, o3, o4, hv, lv, [_], nh, nl, _, cols, _, ⟨(told_cons rfl (told_cons rfl (told_cons rfl (told_cons rfl (told_cons rfl told_nil))))), F, fun p hp => N p (sub_c2 p hp), J.e1, by assumption, J.e3, J.e4, J.hh, (by show SpotsOf _ _ (_ ++ []); rw [List.append_nil]; exact J.hlaid), ⟨rfl, by decide +kernel, trivial⟩, J.ap, J.far⟩⟩
  by_cases hn2 : (d.fmod 4 == 2) = true
  · have hdl : deed = .drop (spotOf d).l ((spotOf d).l + 1 + (spotOf d).s.fmod 4) := hde.symm.trans (deed_drop hn1 hn2)
    subst hdl
    k_steps
    refine stop_out ?_
    rename News _ _ _ _ => N
    rename Fr _ _ _ _ => F
    have hhl := J.hh.length
    have hhm := held_len done
    have hdm : done.length ≤ 10 := by
      have q2 := congrArg List.length hsp
      have q3 := (draws_ok ns).2.2
      rw [List.length_append, List.length_cons] at q2
      omega
    refine LCt.CompSrcT.ledger (k := nh) rfl F N (by k_mem) (line_of (by omega)) (fun g0 => ?_)
    clear F N
    refine drop_comp (stays (spotOf d).l ((spotOf d).l + 1 + (spotOf d).s.fmod 4) (heldOf done).2) J.hh (fun p hp => by repeat (first | exact hp | refine List.Mem.tail _ ?_)) (.inr ⟨_, by k_mem, rfl, _, rfl⟩) ?td ?fd
    case td =>
      intro t y t1 t2 t3 n ys oky IA oI C oC D m₂ h tk E' hC hx F N
      clear ok
      cases hodd : (heldOf done).2 with
      | true =>
        rw [hodd] at e2
        k_steps
        all_goals (refine stop_out ?_)
        all_goals (rename News _ _ _ _ => N)
        all_goals (rename Fr _ _ _ _ => F)
        all_goals first
          | exact ⟨_, _, rfl, stays_f (by show (d.fdiv 256).fmod 17 ≤ (16 - y.l) ∧ (16 - y.l) < (d.fdiv 256).fmod 17 + 1 + ((d.fdiv 4352).fmod 9).fmod 4; omega), F, fun p hp => N p (by first | exact .tail _ hp | exact .tail _ (.tail _ hp))⟩
          | exact ⟨_, _, rfl, rfl, stays_t (by show ¬ ((d.fdiv 256).fmod 17 ≤ (16 - y.l) ∧ (16 - y.l) < (d.fdiv 256).fmod 17 + 1 + ((d.fdiv 4352).fmod 9).fmod 4); omega), F, fun p hp => N p (by first | exact .tail _ hp | exact .tail _ (.tail _ hp))⟩
      | false =>
        rw [hodd] at e2
        k_steps
        all_goals (refine stop_out ?_)
        all_goals (rename News _ _ _ _ => N)
        all_goals (rename Fr _ _ _ _ => F)
        all_goals first
          | exact ⟨_, _, rfl, stays_f (by show (d.fdiv 256).fmod 17 ≤ y.l ∧ y.l < (d.fdiv 256).fmod 17 + 1 + ((d.fdiv 4352).fmod 9).fmod 4; omega), F, fun p hp => N p (by first | exact .tail _ hp | exact .tail _ (.tail _ hp))⟩
          | exact ⟨_, _, rfl, rfl, stays_t (by show ¬ ((d.fdiv 256).fmod 17 ≤ y.l ∧ y.l < (d.fdiv 256).fmod 17 + 1 + ((d.fdiv 4352).fmod 9).fmod 4); omega), F, fun p hp => N p (by first | exact .tail _ hp | exact .tail _ (.tail _ hp))⟩
    case fd =>
      intro ys hys
      k_steps
      refine stop_out ?_
      rename LCg.Off1 _ _ => ho
      rename News _ _ _ _ => N
      rename Fr _ _ _ _ => F
      exact ⟨_, _, rfl, rfl, _, _, _, _, _, _, _, _, [_, _, _], _, _, _, _, _, ⟨(told_cons rfl (told_cons rfl (told_cons rfl (told_cons rfl (told_cons rfl told_nil))))), F, fun p hp => N p (sub_f3 p hp), by assumption, e2, ⟨_, by assumption⟩, ⟨_, by assumption⟩, hys, (by show SpotsOf _ _ (_ ++ []); rw [List.append_nil]; exact J.hlaid), ⟨rfl, by show (Str.ofString "drop").cps.toList.length ≤ 20; decide +kernel, rfl, digs_le (by have q := ok.2.2.1; omega) (by have q := ok.2.2.2.1; omega), rfl, digs_le (by have q := ok.2.2.1; have q2 := Int.fmod_nonneg_of_pos (spotOf d).s (by decide : (0 : Int) < 4); omega) (by have q := ok.2.2.2.1; have q2 := Int.fmod_lt_of_pos (spotOf d).s (by decide : (0 : Int) < 4); omega), trivial⟩, (List.forall_mem_cons.mpr ⟨by k_ne, List.forall_mem_cons.mpr ⟨by k_ne, List.forall_mem_cons.mpr ⟨by k_ne, List.forall_mem_cons.mpr ⟨by k_ne, List.forall_mem_cons.mpr ⟨by k_ne, List.forall_mem_cons.mpr ⟨by k_ne, List.forall_mem_cons.mpr ⟨by k_ne, List.forall_mem_cons.mpr ⟨by k_ne, List.forall_mem_nil _⟩⟩⟩⟩⟩⟩⟩⟩), fun p hp => ⟨(J.far p hp).1, Off1.mem ho p (by repeat (first | exact hp | refine List.Mem.tail _ ?_)), (J.far p hp).2.2⟩⟩⟩
  have hdl : deed = .lay (spotOf d) (decide ((spotOf d).p0 = (spotOf d).p1 ∧ (spotOf d).p1 = (spotOf d).p2 ∧ (d.fdiv 39168).fmod 2 = 1)) := hde.symm.trans (deed_lay hn1 hn2)
  subst hdl
  k_steps
  refine stop_out ?_
  rename News _ _ _ _ => N
  rename Fr _ _ _ _ => F
  rename_i D2 hD2 lD2 hq0 tkq q0 tq hq1 tkq1 taq tbq tcq apq hl0 tkl1 qkx ekx tkl0 tkw l0 hl1 ll0
  refine ⟨_, _, _, rfl, rfl, F, N, ⟨_, .tail _ (.head _)⟩, (by show 3 ≤ 1000; decide), fun s₂ hs₂ => ?_⟩
  obtain ⟨g0, rfl⟩ := hs₂
  clear F N
  rename Spot.ok _ => ok
  refine strs_comp (args := [(spotOf d).p0, (spotOf d).p1, (spotOf d).p2]) ⟨rfl, rfl, rfl, trivial⟩ (parts_range ok) ⟨_, .tail _ (.head _)⟩ ?ts ?fs
  case ts =>
    intro n t ys r1 r2 IA oI C oC D m₂ h tk E' hC hx F N
    k_steps
    refine stop_out ?_
    rename News _ _ _ _ => N
    rename Fr _ _ _ _ => F
    exact ⟨_, _, _, rfl, rfl, F, N⟩
  case fs =>
    intro ys hys
    obtain ⟨sa, ua, sb, ub, sc, uc, rfl⟩ := hys.three
    k_steps
    refine stop_out ?_
    rename StrV _ _ => hys
    rename News _ _ _ _ => N
    rename Fr _ _ _ _ => F
    rename_i D1 hD1 tkD1 oD1 apD1 W0 hW0 nW0 apW0 lW0 hX
    refine if_merge [(Str.ofString "draws", Value.ref I), (Str.ofString "laid", .ref ll), (Str.ofString "draw", .int d td), (Str.ofString "text", .str tx tt), (Str.ofString "spot", .ref D2)] (Deed.lay (spotOf d) (decide ((spotOf d).p0 = (spotOf d).p1 ∧ (spotOf d).p1 = (spotOf d).p2 ∧ (d.fdiv 39168).fmod 2 = 1))).words N ?gh1 ?gh2
    case gh1 =>
      have hys2 : StrV _ _ ∧ True := ⟨hys, trivial⟩
      clear hys
      k_steps
      all_goals (refine stop_out ?_)
      all_goals (rename News _ _ _ _ => N)
      all_goals (rename Fr _ _ _ _ => F)
      all_goals first
        | exact ⟨_, _, _, _, _, _, rfl, rfl, told_cons rfl (told_cons rfl (told_cons rfl (told_cons rfl (told_cons rfl (told_cons rfl told_nil))))), F, fun p hp => N p (sub_w0 p hp), by (rw [layw_f (by omega)]; exact ⟨rfl, lay_le, hys2.1⟩), Ap.sub apW0 tl3⟩
        | (rename_i Dg hg lg hg2
           exact ⟨_, _, Dg, 0, [_, _], _, rfl, rfl, told_cons rfl (told_cons rfl (told_cons rfl (told_cons rfl (told_cons rfl (told_cons rfl told_nil))))), F, fun p hp => N p (sub_w1 p hp), by (rw [layw_t ⟨by omega, by omega, by omega⟩]; exact ⟨rfl, lay_le, hys2.1.1, hys2.1.2.1, trivial⟩), Ap.mk (List.forall_mem_cons.mpr ⟨by k_ne, List.forall_mem_cons.mpr ⟨by k_ne, List.forall_mem_cons.mpr ⟨by k_ne, List.forall_mem_cons.mpr ⟨by k_ne, List.forall_mem_cons.mpr ⟨by k_ne, List.forall_mem_cons.mpr ⟨by k_ne, List.forall_mem_cons.mpr ⟨by k_ne, List.forall_mem_cons.mpr ⟨by k_ne, List.forall_mem_cons.mpr ⟨by k_ne, List.forall_mem_cons.mpr ⟨by k_ne, tail_ne lg.2.2.2.2.2.2.2.2.2.2.2.2.2.2⟩⟩⟩⟩⟩⟩⟩⟩⟩⟩)⟩)
    case gh2 =>
      clear hys apq apD1 apW0 F N
      intro h' tk' W nW wvs m' hm F N hsv apW
      replace F := Fr.named _ F hm
      dsimp only [nm] at F
      have hhl := J.hh.length
      have hhm := held_len done
      have hdm : done.length ≤ 10 := by
        have q2 := congrArg List.length hsp
        have q3 := (draws_ok ns).2.2
        rw [List.length_append, List.length_cons] at q2
        omega
      have hvm : hv.length ≤ 10 := by omega
      have hlm : lv.length ≤ 20 := by
        have q1 := J.hlaid.length
        have q2 := laid_len done
        omega
      have hw4 := StrV.le hsv lay_wl
      cases hodd : (heldOf done).2 with
      | true =>
        rw [hodd] at e2
        k_steps
        refine stop_out ?_
        rename News _ _ _ _ => N
        rename Fr _ _ _ _ => F
        (try rw [push_vals] at N)
        rename StrV _ _ => hsv
        rename Spot.ok _ => ok
        exact ⟨_, _, rfl, rfl, hl, W, o1, o2, o3, o4, _, _, wvs, _, _, _, _, _, ⟨(told_cons rfl (told_cons rfl (told_cons rfl (told_cons rfl (told_cons rfl told_nil))))), F, fun p hp => N p (sub_f2 p hp), J.e1, (by show o2.data = Data.cell (some (.bool (heldOf done).2)); rw [hodd]; exact e2), J.e3, J.e4, (by show SpotsOf _ _ ((heldOf done).1 ++ [if (heldOf done).2 then (spotOf d).over else spotOf d]); rw [hodd]; exact SpotsOf.append (SpotsOf.mono (fun p hp => .tail _ (.tail _ (.tail _ hp))) J.hh) ⟨Spot.over_ok ok, ⟨_, _, _, _, .tail _ (.head _)⟩, trivial⟩), SpotsOf.append (SpotsOf.mono (fun p hp => .tail _ (.tail _ (.tail _ hp))) J.hlaid) ⟨ok, ⟨_, _, _, 0, .tail _ (.tail _ (.head _))⟩, Spot.over_ok ok, ⟨_, _, _, _, .head _⟩, trivial⟩, hsv, J.ap, List.forall_mem_cons.mpr ⟨⟨by k_ne, by k_ne, by k_ne, by k_ne, by k_ne, by k_ne, by k_ne, by k_ne⟩, List.forall_mem_cons.mpr ⟨⟨by k_ne, by k_ne, by k_ne, by k_ne, by k_ne, by k_ne, by k_ne, by k_ne⟩, List.forall_mem_cons.mpr ⟨⟨by k_ne, by k_ne, by k_ne, by k_ne, by k_ne, by k_ne, by k_ne, by k_ne⟩, J.far⟩⟩⟩⟩⟩
      | false =>
        rw [hodd] at e2
        k_steps
        refine stop_out ?_
        rename News _ _ _ _ => N
        rename Fr _ _ _ _ => F
        (try rw [push_vals] at N)
        rename StrV _ _ => hsv
        rename Spot.ok _ => ok
        exact ⟨_, _, rfl, rfl, hl, W, o1, o2, o3, o4, _, _, wvs, _, _, _, _, _, ⟨(told_cons rfl (told_cons rfl (told_cons rfl (told_cons rfl (told_cons rfl told_nil))))), F, fun p hp => N p (sub_f1 p hp), J.e1, (by show o2.data = Data.cell (some (.bool (heldOf done).2)); rw [hodd]; exact e2), J.e3, J.e4, (by show SpotsOf _ _ ((heldOf done).1 ++ [if (heldOf done).2 then (spotOf d).over else spotOf d]); rw [hodd]; exact SpotsOf.append (SpotsOf.mono (fun p hp => .tail _ (.tail _ hp)) J.hh) ⟨ok, ⟨_, _, _, 0, .tail _ (.head _)⟩, trivial⟩), SpotsOf.append (SpotsOf.mono (fun p hp => .tail _ (.tail _ hp)) J.hlaid) ⟨ok, ⟨_, _, _, 0, .tail _ (.head _)⟩, Spot.over_ok ok, ⟨_, _, _, _, .head _⟩, trivial⟩, hsv, J.ap, List.forall_mem_cons.mpr ⟨⟨by k_ne, by k_ne, by k_ne, by k_ne, by k_ne, by k_ne, by k_ne, by k_ne⟩, List.forall_mem_cons.mpr ⟨⟨by k_ne, by k_ne, by k_ne, by k_ne, by k_ne, by k_ne, by k_ne, by k_ne⟩, J.far⟩⟩⟩⟩)
end Mine
end
theorem PySem.Challenge.cw_pg0177_01_holds : PySem.Challenge.rw_pg0177_01.Holds := by
  exact Mine.lawGo
