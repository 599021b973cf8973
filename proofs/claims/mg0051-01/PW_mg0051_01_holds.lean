import PyProof.Rows.All
import Wide.All
import OpenK.AllK
import Wide.FinOn
import PyProof.IsiH_list
import PySem.Challenge.RW_mg0051_01
set_option Elab.async false
section PartHd
open PySem PySem.W PyProof.Rows
set_option Elab.async false
namespace Mine
set_option maxRecDepth 100000
set_option maxHeartbeats 8000000
noncomputable section
/-- the statements of the text's top that are kept in view -/
def vw : Program := view PySem.Challenge.pw_mg0051_01 [0, 2, 4, 5, 6, 7, 8, 10, 11, 12, 13, 14]
-- the library's quick twins of the functions that the kernel runs below
abbrev saidQ := Fast.tw9446332074065402090
abbrev treeQ := Fast.tw14364793385576792824
abbrev endsQ := Fast.tw10274390034422433532
abbrev runQ := Fast.tw14082659384304107361
abbrev seenQ := Fast.tw4187177175401517315
theorem treeQ_eq : treeTable = treeQ := Fast.te14364793385576792824
theorem endsQ_eq : importEnds = endsQ := Fast.te10274390034422433532
theorem runQ_eq : topRun = runQ := Fast.te14082659384304107361
theorem seenQ_eq : openSeen = seenQ := Fast.te4187177175401517315
theorem said : PySem.Challenge.rw_mg0051_01.wellSaid = true := (congrFun Fast.te9446332074065402090 _).trans (show saidQ PySem.Challenge.rw_mg0051_01 = true by kernel_rfl)
/-- the top's run, by the quick twins -/
def topQ (w : World) : { o : Option Shared // openEnds treeTable PySem.Challenge.pw_mg0051_01 w 2594 = o } := by
  exact ⟨_, by unfold openEnds fencedOpening topFrom; rw [endsQ_eq, runQ_eq, treeQ_eq]⟩
abbrev xtQ (s : Shared) : Bool := xlAt vw [] s && recOk [] s
/-- the head, with the heap's fragment as a hook -/
theorem head_of (H : Hook) {d : DefRec} {kwd : List (Str × Expr)} (hdef : defOf vw PySem.Challenge.rw_mg0051_01.row.name = some (d, kwd)) (hp : PySem.Challenge.rw_mg0051_01.row.prog.theDef PySem.Challenge.rw_mg0051_01.row.name = some (d.params, d.body, d.scope)) (hk : kwWritten? d.params.kwonlyargs d.params.kw_defaults = some kwd)
    (hl : ∀ w, (topQ w).1.map (fun s => (seenQ vw [Str.ofString "_NodeInfo"] (importedModules PySem.Challenge.pw_mg0051_01.main.body) xtQ true s, H.obs s)) = some (openGood vw [Str.ofString "_NodeInfo"], H.val w)) (k1 : PySem.Challenge.rw_mg0051_01.row.wellSaid = true) (hw : PySem.Challenge.rw_mg0051_01.row.toRowW.promised)
    (hc : WalkO vw [Str.ofString "_NodeInfo"] (XL vw []) H.says PySem.Challenge.rw_mg0051_01.row.toRowW d kwd fun f vs => PySem.call f vs) : PySem.Challenge.rw_mg0051_01.row.Holds := by
  refine holds_open (N := 2594) (loose := [Str.ofString "_NodeInfo"]) (Xt := xtQ) (fun w => ?_) (Hook.of H) (Hook.keeps H) (fun s e => xl_of s (Bool.and_eq_true_iff.mp e).1) XL.keeps hdef hp hk (fun s e => recFacts_of (Bool.and_eq_true_iff.mp e).2) rfl k1 (by decide +kernel) ⟨rfl, rfl, rfl, rfl, rfl, by decide +kernel⟩ hw hc
  have := hl w
  rw [← seenQ_eq, ← (topQ w).2] at this
  exact this
end
local macro_rules | `(tactic| o_law) => `(tactic| refine holds_law said fun _ => ?_)
local macro_rules | `(tactic| o_head $H) => `(tactic| refine head_of $H (by rfl) (by rfl) (by rfl) (fun w => by kernel_rfl) (by assumption) ?hw ?hc)
open_top hd for PySem.Challenge.rw_mg0051_01
end Mine
end PartHd

section PartBase
theorem Mine.anewBase : True := by
  w_top off
  trivial
open PySem PySem.W PySem.Calls PyProof.Rows
set_option Elab.async false
set_option maxRecDepth 100000
namespace Mine

noncomputable abbrev PG : Program := Challenge.rw_mg0051_01.row.prog

/-- what the text's top laid, in a frozen heap -/
structure Gd (w : World) (g : Heap) : Prop where
  X : (hd.heap_1 w.params).In g
  T : ∃ mean mg mb, Top vw (looseW vw [Str.ofString "_NodeInfo"]) mean mg mb g
theorem Gd.keeps {w : World} {g g' : Heap} (G : Gd w g) (k : g.StaysIn g') : Gd w g' :=
  ⟨G.X.keeps k, let ⟨a, b, c, T⟩ := G.T; ⟨a, b, c, T.keeps k⟩⟩

@[reducible] noncomputable def AA (d u : Nat) (outer : List Env) : Around := { handled := none, depth := d, frames := some outer, guards := some [], units := u }

/-- the frames' objects, as entries -/
inductive FrsOk : List Env → List (Addr × Obj) → Prop
  | nil : FrsOk [] []
  | cons {env : Env} {outer : List Env} {L : Addr} {o : Obj} {frs : List (Addr × Obj)} : env.scope.kind ≠ .module → env.frame = some L → (∀ vs, o.data ≠ .fields vs) → FrsOk outer frs → FrsOk (env :: outer) ((L, o) :: frs)

/-- the same entries but for their slots -/
inductive SlotsOf : List (Addr × Obj) → List (Addr × Obj) → Prop
  | nil : SlotsOf [] []
  | cons {a : Addr} {o : Obj} {sl : Array (Option Value)} {r r' : List (Addr × Obj)} : SlotsOf r r' → SlotsOf ((a, o) :: r) ((a, { o with slots := sl }) :: r')
theorem SlotsOf.refl (l : List (Addr × Obj)) : SlotsOf l l := by
  induction l with
  | nil => exact .nil
  | cons p r ih => exact SlotsOf.cons (a := p.1) (o := p.2) (sl := p.2.slots) ih
theorem SlotsOf.trans {a b c : List (Addr × Obj)} (x : SlotsOf a b) : SlotsOf b c → SlotsOf a c := by
  induction x generalizing c with
  | nil => exact id
  | cons r ih => intro y; cases y with | cons r' => exact .cons (ih r')
theorem SlotsOf.fst {a b : List (Addr × Obj)} (x : SlotsOf a b) : b.map (·.1) = a.map (·.1) := by
  induction x with
  | nil => rfl
  | cons r ih => simp only [List.map_cons, ih]
theorem FrsOk.slots {outer : List Env} {a b : List (Addr × Obj)} (x : FrsOk outer a) : SlotsOf a b → FrsOk outer b := by
  induction x generalizing b with
  | nil => intro y; cases y; exact .nil
  | cons k f d r ih => intro y; cases y with | cons r' => exact .cons k f d (ih r')
theorem FrsOk.frames {outer : List Env} {frs : List (Addr × Obj)} (x : FrsOk outer frs) : outer.filterMap (·.frame) = frs.map (·.1) := by
  induction x with
  | nil => rfl
  | cons k f d r ih => simp only [List.filterMap_cons, f, List.map_cons, ih]
theorem FrsOk.fun {base h : Heap} {outer : List Env} {frs : List (Addr × Obj)} (x : FrsOk outer frs) : (∀ p ∈ frs, h.get? p.1 = some p.2 ∧ base.get? p.1 = none) → h.FunFrames base outer := by
  induction x with
  | nil => intro _; trivial
  | cons k f d r ih => intro n; exact ⟨k, ⟨_, _, f, (n _ (.head _)).2, (n _ (.head _)).1, d⟩, ih fun p hp => n p (.tail _ hp)⟩

def Nw (g h : Heap) (l : List (Addr × Obj)) : Prop := ∀ p ∈ l, h.get? p.1 = some p.2 ∧ g.get? p.1 = none

/-- entering a def of the text from a raw heap: g frozen, news may turn -/
theorem enter {w : World} {A : Around} {g : Heap} {s : Shared} {news : List (Addr × Obj)} {R : Result → Shared → Prop}
    {name qual : Str} {params : Arguments} {body : List Stmt} {scope : Scope} {dV kV doc pm cdv ct oc : Value} {an od : Option Addr} {osl : Array (Option Value)} {f : Addr} {args : Args} {binds : List (Str × Value)}
    (X : (hd.heap_1 w.params).In g) (hlim : g.NoLimit) (st : g.StaysIn s.heap) (hsz : g.objs.size ≤ s.heap.objs.size)
    (N : Nw g s.heap news)
    (ho : (hd.heap_1 w.params).lookup f = some ⟨oc, od, .func (fnOf name qual params body scope dV kV doc pm an cdv ct), osl⟩)
    (hcd : codeIn (hd.heap_1 w.params) cdv qual = true) (hroom : A.depth < recursionLimit)
    (hbind : BindsTo s (fnOf name qual params body scope dV kV doc pm an cdv ct) args binds) (hloc : ∀ y ∈ binds, scope.names.lookup y.1 = some .local)
    (h : ∀ L' h₁, L' = s.heap.objs.size → Fr g L' h₁ (fun y => binds.reverse.lookup y) → News g L' h₁ news → L' < h₁.objs.size →
      wpAny (model PG w) (A.deeper (envOf qual scope L' f cdv)) (execs body (envOf qual scope L' f cdv))
        (fun fl s' => R (.ok (.ret (match fl with | .ret v => v | _ => .none))) s') (fun _ _ => False)
        { s with heap := h₁, toks := s.toks + binds.length })
    (hco : scope.isCoroutine = false) (hgen : scope.isGenerator = false) (hk : scope.kind = .function)
    (hcell : ∀ x ∈ scope.names, x.2 ≠ .cell) : codeAny (model PG w) A (.call (.ref f) args) R s := by
  have X' := X.keeps st
  refine codeAny_call_def (fd := fnOf name qual params body scope dV kV doc pm an cdv ct) (body := body) (binds := binds) hroom (X' _ _ ho) rfl (hlim.keeps st) (codeRec_of X' hcd) rfl hbind hcell hloc (fun h₁ hns hk₁ => ?_) hco hgen hk
  exact wpAny_mono (h s.heap.objs.size h₁ rfl ⟨hns, fun b o e => hk₁ b o (st b o e), hsz⟩ (fun p hp => ⟨hk₁ _ _ (N p hp).1, Nat.ne_of_lt (Heap.lt_size (N p hp).1), (N p hp).2⟩) hns.lt) (fun fl s' hl => hl) fun _ _ y => y.elim

/-- a def's contract -/
def Spec (w : World) (d u : Nat) (f : Addr) (args : List Value) (pre : List (Addr × Obj)) (fz : Heap → Prop) (post : Value → List (Addr × Obj) → Prop) : Prop :=
  ∀ (g : Heap) (outer : List Env) (frs : List (Addr × Obj)) (s : Shared) (R : Result → Shared → Prop),
    Gd w g → fz g → FrsOk outer frs → g.StaysIn s.heap → g.objs.size ≤ s.heap.objs.size →
    Nw g s.heap (pre ++ frs) → OwnOff frs (pre.map (·.1)) →
    (∀ v h' tk frs' pst, post v pst → SlotsOf frs frs' → g.StaysIn h' → Nw g h' (pst ++ frs') → OwnOff frs' (pst.map (·.1)) →
      R (.ok (.ret v)) { s with heap := h', toks := tk }) →
    codeAny (model PG w) (AA d u outer) (.call (.ref f) ⟨args, []⟩) R s

/-- a contract at work -/
theorem Spec.useC {w : World} {d u : Nat} {f : Addr} {args : List Value} {pre others news frs : List (Addr × Obj)} {fz : Heap → Prop} {post : Value → List (Addr × Obj) → Prop}
    {env : Env} {outer : List Env} {h₀ : Heap} {L : Addr} {m : Str → Option Value} {s : Shared} {R : Result → Shared → Prop}
    (C : Spec w d u f args pre fz post) (G : Gd w h₀) (F : Fr h₀ L s.heap m) (N : News h₀ L s.heap news) (hf : env.frame = some L) (hk : env.scope.kind = .function) (ok : FrsOk outer frs)
    (hsub : ∀ p ∈ pre ++ (others ++ frs), p ∈ news) (ho1 : OwnOff (others ++ frs) (pre.map (·.1))) (ho2 : OwnOff frs (others.map (·.1)))
    (hfz : ∀ g', (∀ b o, s.heap.get? b = some o → b ≠ L → b ∉ pre.map (·.1) → b ∉ frs.map (·.1) → g'.get? b = some o) → h₀.StaysIn g' → Nw h₀ g' others → fz g')
    (k : ∀ v h' tk frs' pst, post v pst → SlotsOf frs frs' → FrsOk outer frs' → Fr h₀ L h' m → News h₀ L h' (pst ++ (others ++ frs')) → OwnOff (others ++ frs') (pst.map (·.1)) → OwnOff frs' (others.map (·.1)) →
      (∀ b o, s.heap.get? b = some o → b ≠ L → b ∉ pre.map (·.1) → b ∉ frs.map (·.1) → h'.get? b = some o ∧ b ∉ pst.map (·.1) ∧ b ∉ frs'.map (·.1)) →
      R (.ok (.ret v)) { s with heap := h', toks := tk }) :
    codeAny (model PG w) (AA d u (env :: outer)) (.call (.ref f) ⟨args, []⟩) R s := by
  obtain ⟨oL, es, ep, hL, hLd, hLk, hLf⟩ := F.ns
  let hid := L :: (pre.map (·.1) ++ frs.map (·.1))
  have hN : ∀ p ∈ pre ++ (others ++ frs), s.heap.get? p.1 = some p.2 ∧ p.1 ≠ L ∧ h₀.get? p.1 = none := fun p hp => N p (hsub p hp)
  have keepG : ∀ b o, s.heap.get? b = some o → b ∉ hid → (hideAll s.heap hid).get? b = some o := fun b o e n => hideAll_get _ e n
  have notL : h₀.get? L = none := by
    cases q : h₀.get? L with
    | none => rfl
    | some o => exact absurd (Nat.lt_of_lt_of_le (Heap.lt_size q) F.above) (Nat.lt_irrefl _)
  have stG : h₀.StaysIn (hideAll s.heap hid) := fun b o e => by
    refine keepG b o (F.keep b o e) fun hm => ?_
    rcases List.mem_cons.mp hm with rfl | hm
    · rw [notL] at e; cases e
    · rcases List.mem_append.mp hm with hm | hm
      · obtain ⟨p, hp, rfl⟩ := List.mem_map.mp hm
        rw [(hN p (List.mem_append_left _ hp)).2.2] at e; cases e
      · obtain ⟨p, hp, rfl⟩ := List.mem_map.mp hm
        rw [(hN p (List.mem_append_right _ (List.mem_append_right _ hp))).2.2] at e; cases e
  have othG : ∀ p ∈ others, (hideAll s.heap hid).get? p.1 = some p.2 := fun p hp => by
    have P := hN p (List.mem_append_right _ (List.mem_append_left _ hp))
    refine keepG _ _ P.1 fun hm => ?_
    rcases List.mem_cons.mp hm with e | hm
    · exact P.2.1 e
    · rcases List.mem_append.mp hm with hm | hm
      · exact ho1 p (List.mem_append_left _ hp) _ hm rfl
      · obtain ⟨q, hq, e⟩ := List.mem_map.mp hm
        exact ho2 q hq p.1 (List.mem_map_of_mem hp) e
  have hidN : ∀ b ∈ hid, (hideAll s.heap hid).get? b = none := fun b hb => hideAll_none _ hb
  have G' := G.keeps stG
  have ok' : FrsOk (env :: outer) ((L, oL) :: frs) := .cons (by rw [hk]; decide) hf (fun vs q => by rw [hLd] at q; cases q) ok
  refine (C (hideAll s.heap hid) (env :: outer) ((L, oL) :: frs) s _ G' (hfz _ (fun b o e n1 n2 n3 => keepG b o e fun hm => ?_) stG fun p hp => ⟨othG p hp, (hN p (List.mem_append_right _ (List.mem_append_left _ hp))).2.2⟩) ok' (fun b o e => of_hideAll _ e) (Nat.le_of_eq (hideAll_size _ _)) ?_ ?_ ?_)
  · rcases List.mem_cons.mp hm with e | hm
    · exact n1 e
    · rcases List.mem_append.mp hm with hm | hm
      · exact n2 hm
      · exact n3 hm
  · intro p hp
    rcases List.mem_append.mp hp with hp | hp
    · exact ⟨(hN p (List.mem_append_left _ hp)).1, hidN _ (.tail _ (List.mem_append_left _ (List.mem_map_of_mem hp)))⟩
    · rcases List.mem_cons.mp hp with rfl | hp
      · exact ⟨hL, hidN _ (.head _)⟩
      · exact ⟨(hN p (List.mem_append_right _ (List.mem_append_right _ hp))).1, hidN _ (.tail _ (List.mem_append_right _ (List.mem_map_of_mem hp)))⟩
  · intro p hp b hb
    rcases List.mem_cons.mp hp with rfl | hp
    · obtain ⟨q, hq, rfl⟩ := List.mem_map.mp hb
      exact Ne.symm (hN q (List.mem_append_left _ hq)).2.1
    · exact ho1 p (List.mem_append_right _ hp) b hb
  · intro v h' tk frs₁ pst hp hs stH NH off
    cases hs with
    | @cons _ _ sl _ frs' hs' =>
    have hL' := (NH (L, { oL with slots := sl }) (List.mem_append_right _ (.head _))).1
    have other : ∀ p ∈ others, h'.get? p.1 = some p.2 := fun p hp => stH _ _ (othG p hp)
    have frN : ∀ p ∈ frs', h'.get? p.1 = some p.2 ∧ (hideAll s.heap hid).get? p.1 = none := fun p hp => NH p (List.mem_append_right _ (.tail _ hp))
    have pstN : ∀ p ∈ pst, h'.get? p.1 = some p.2 ∧ (hideAll s.heap hid).get? p.1 = none := fun p hp => NH p (List.mem_append_left _ hp)
    have noneH : ∀ b, (hideAll s.heap hid).get? b = none → h₀.get? b = none := fun b e => by
      cases q : h₀.get? b with
      | none => rfl
      | some o => rw [stG b o q] at e; cases e
    have frL : ∀ p ∈ frs', p.1 ≠ L := fun p hp e => by
      have : p.1 ∈ frs'.map (·.1) := List.mem_map_of_mem hp
      rw [hs'.fst] at this
      obtain ⟨q, hq, hq2⟩ := List.mem_map.mp this
      exact (hN q (List.mem_append_right _ (List.mem_append_right _ hq))).2.1 (hq2.trans e)
    refine k v h' tk frs' pst hp hs' (ok.slots hs') ⟨⟨{ oL with slots := sl }, es, ep, hL', hLd, hLk, hLf⟩, fun b o e => stH b o (stG b o e), F.above⟩ ?_ ?_ ?_ ?_
    · intro p hp
      rcases List.mem_append.mp hp with hp | hp
      · exact ⟨(pstN p hp).1, fun e => off (L, { oL with slots := sl }) (.head _) p.1 (List.mem_map_of_mem hp) e.symm, noneH _ (pstN p hp).2⟩
      · rcases List.mem_append.mp hp with hp | hp
        · have P := hN p (List.mem_append_right _ (List.mem_append_left _ hp)); exact ⟨other p hp, P.2⟩
        · exact ⟨(frN p hp).1, frL p hp, noneH _ (frN p hp).2⟩
    · intro p hp b hb e
      rcases List.mem_append.mp hp with hp | hp
      · obtain ⟨q, hq, rfl⟩ := List.mem_map.mp hb
        have := (pstN q hq).2; rw [← e, othG p hp] at this; cases this
      · exact off p (.tail _ hp) b hb e
    · intro p hp b hb e
      obtain ⟨q, hq, rfl⟩ := List.mem_map.mp hb
      have := (frN p hp).2; rw [e, othG q hq] at this; cases this
    · intro b o e n1 n2 n3
      have eg : (hideAll s.heap hid).get? b = some o := keepG b o e fun hm => by
        rcases List.mem_cons.mp hm with e | hm
        · exact n1 e
        · rcases List.mem_append.mp hm with hm | hm
          · exact n2 hm
          · exact n3 hm
      refine ⟨stH b o eg, fun hm => ?_, fun hm => ?_⟩
      · obtain ⟨q, hq, rfl⟩ := List.mem_map.mp hm
        rw [(pstN q hq).2] at eg; cases eg
      · rw [hs'.fst] at hm; exact n3 hm
/-- a contract at work -/
theorem Spec.use {w : World} {d u : Nat} {f : Addr} {args : List Value} {pre others news frs : List (Addr × Obj)} {fz : Heap → Prop} {post : Value → List (Addr × Obj) → Prop}
    {env : Env} {outer : List Env} {h₀ : Heap} {L : Addr} {m : Str → Option Value} {s : Shared} {Q : Value → Shared → Prop} {E : Value → Shared → Prop}
    (C : Spec w d u f args pre fz post) (G : Gd w h₀) (F : Fr h₀ L s.heap m) (N : News h₀ L s.heap news) (hf : env.frame = some L) (hk : env.scope.kind = .function) (ok : FrsOk outer frs)
    (hsub : ∀ p ∈ pre ++ (others ++ frs), p ∈ news) (ho1 : OwnOff (others ++ frs) (pre.map (·.1))) (ho2 : OwnOff frs (others.map (·.1)))
    (hfz : ∀ g', (∀ b o, s.heap.get? b = some o → b ≠ L → b ∉ pre.map (·.1) → b ∉ frs.map (·.1) → g'.get? b = some o) → h₀.StaysIn g' → Nw h₀ g' others → fz g')
    (k : ∀ v h' tk frs' pst, post v pst → SlotsOf frs frs' → FrsOk outer frs' → Fr h₀ L h' m → News h₀ L h' (pst ++ (others ++ frs')) → OwnOff (others ++ frs') (pst.map (·.1)) → OwnOff frs' (others.map (·.1)) →
      (∀ b o, s.heap.get? b = some o → b ≠ L → b ∉ pre.map (·.1) → b ∉ frs.map (·.1) → h'.get? b = some o ∧ b ∉ pst.map (·.1) ∧ b ∉ frs'.map (·.1)) →
      Q v { s with heap := h', toks := tk }) :
    wpAny (model PG w) (AA d u (env :: outer)) (call (.ref f) args) Q E s := by
  exact wpAny_call (C.useC G F N hf hk ok hsub ho1 ho2 hfz k)
end Mine
end PartBase

section PartExc
theorem Mine.anewExc : True := by
  w_top off
  trivial
open PySem PySem.W PySem.Calls PyProof.Rows
set_option Elab.async false
set_option maxRecDepth 100000
namespace Mine

/-- all below n0 stays, the frames' objects but for their slots -/
def Kept (n0 : Nat) (FR : List Addr) (h h' : Heap) : Prop :=
  h.objs.size ≤ h'.objs.size ∧ ∀ b o, b < n0 → h.get? b = some o → (b ∉ FR → h'.get? b = some o) ∧ ∃ sl, h'.get? b = some { o with slots := sl }
theorem Kept.refl (n0 : Nat) (FR : List Addr) (h : Heap) : Kept n0 FR h h := ⟨Nat.le_refl _, fun _ o _ e => ⟨fun _ => e, o.slots, e⟩⟩
theorem Kept.trans {n0 : Nat} {FR : List Addr} {h h₁ h₂ : Heap} (x : Kept n0 FR h h₁) (y : Kept n0 FR h₁ h₂) : Kept n0 FR h h₂ :=
  ⟨Nat.le_trans x.1 y.1, fun b o hb e => by
    obtain ⟨x1, sl, x2⟩ := x.2 b o hb e
    obtain ⟨_, sl', y2⟩ := y.2 b _ hb x2
    exact ⟨fun hn => ((y.2 b o hb (x1 hn)).1 hn), sl', y2⟩⟩
theorem Kept.of_keeps {n0 : Nat} {FR : List Addr} {h h' : Heap} (hs : h.objs.size ≤ h'.objs.size) (k : ∀ b o, h.get? b = some o → h'.get? b = some o) : Kept n0 FR h h' :=
  ⟨hs, fun b o _ e => ⟨fun _ => k b o e, o.slots, k b o e⟩⟩
theorem Kept.upd {n0 : Nat} {FR : List Addr} {h : Heap} {a : Addr} (f : Obj → Obj) (ha : n0 ≤ a) : Kept n0 FR h (h.update a f) :=
  ⟨Nat.le_of_eq (Heap.size_after_update ..).symm, fun b o hb e => by
    have : (h.update a f).get? b = some o := (Heap.get?_update_ne _ _ _ _ (Nat.ne_of_lt (Nat.lt_of_lt_of_le hb ha))).trans e
    exact ⟨fun _ => this, o.slots, this⟩⟩

/-- an exception at e with its context, its traceback not yet begun -/
def ExcNew (n0 : Nat) (h : Heap) (e : Addr) (cls : String) (ctx : Value) : Prop :=
  ∃ oe vs, n0 ≤ e ∧ h.get? e = some oe ∧ oe.cls = .type cls ∧ oe.data = .fields vs ∧ vs[1]? = some .none ∧ vs[2]? = some ctx
/-- an exception at e whose traceback's head bears fl -/
def ExcAt (n0 : Nat) (h : Heap) (e : Addr) (cls : String) (fl ctx : Value) : Prop :=
  ∃ oe vs T oT ts, n0 ≤ e ∧ n0 ≤ T ∧ T ≠ e ∧ h.get? e = some oe ∧ oe.cls = .type cls ∧ oe.data = .fields vs ∧ vs[1]? = some (.ref T) ∧ vs[2]? = some ctx ∧
    h.get? T = some oT ∧ oT.data = .fields ts ∧ ts[3]? = some fl
theorem ExcAt.type {n0 : Nat} {s : Shared} {e : Addr} {cls : String} {fl ctx : Value} (x : ExcAt n0 s.heap e cls fl ctx) : s.TypeIs (.ref e) cls := by
  obtain ⟨oe, vs, T, oT, ts, _, _, _, he, hc, _⟩ := x
  exact ⟨oe, he, hc⟩
theorem ExcNew.of {h h' : Heap} {e : Addr} {cls : String} (x : Heap.NewExc h h' e cls) (n0 : Nat) (hn : n0 ≤ e) : ExcNew n0 h' e cls .none := by
  obtain ⟨ob, t, he, hc, hd⟩ := x.there
  exact ⟨ob, _, hn, he, hc, hd, rfl, rfl⟩
theorem ExcAt.less {n0 n1 : Nat} {h : Heap} {e : Addr} {cls : String} {fl ctx : Value} (x : ExcAt n0 h e cls fl ctx) (hn : n1 ≤ n0) : ExcAt n1 h e cls fl ctx := by
  obtain ⟨oe, vs, T, oT, ts, a, b, r⟩ := x
  exact ⟨oe, vs, T, oT, ts, Nat.le_trans hn a, Nat.le_trans hn b, r⟩

section
variable {M : Model} {A : Around} {E : Value → Shared → Prop} {s : Shared} {env : Env} {outer : List Env} {frs : List (Addr × Obj)} {L e : Addr} {n0 : Nat} {cls : String} {ctx fl : Value} {Q : Unit → Shared → Prop}

theorem setFlight_at {fr : Option Addr} (x : ExcAt n0 s.heap e cls fl ctx)
    (h : ∀ h', Kept n0 [] s.heap h' → ExcAt n0 h' e cls (fr.elim .none fun f => rawInt f) ctx → Q () { s with heap := h' }) : wpAny M A (setFlight (.ref e) fr) Q E s := by
  obtain ⟨oe, vs, T, oT, ts, a1, a2, a3, a4, a5, a6, a7, a8, a9, a10, a11⟩ := x
  unfold setFlight
  refine wpAny_bind (wpAny_field a4 a6 a7 ?_)
  rw [if_pos (show (Value.ref T != Value.none) = true from by simp)]
  have hi : 3 < ts.size := (Array.getElem?_eq_some_iff.mp a11).1
  refine wpAny_setField a9 a10 hi (h _ (Kept.upd _ a2) ?_)
  refine ⟨oe, vs, T, _, _, a1, a2, a3, (Heap.get?_update_ne _ _ _ _ (Ne.symm a3)).trans a4, a5, a6, a7, a8, Heap.get?_update_self _ a9 (Obj.isFreed_of_fields (Obj.data_mapFields a10 _)), Obj.data_mapFields a10 _, ?_⟩
  rw [Array.getElem?_setIfInBounds_self_of_lt hi]

theorem cameBack_at (hf : env.frame = some L) (x : ExcAt n0 s.heap e cls fl ctx)
    (h : ∀ h', Kept n0 [] s.heap h' → ExcAt n0 h' e cls (rawInt L) ctx → E (.ref e) { s with heap := h' }) : cameBackBy M A env E (.ref e) s := by
  obtain ⟨oe, vs, T, oT, ts, a1, a2, a3, a4, a5, a6, a7, a8, a9, a10, a11⟩ := id x
  unfold cameBackBy
  refine wpAny_bind (wpAny_field a4 a6 a7 ?_)
  rw [if_neg (show ¬ (Value.ref T == Value.none) = true from by simp)]
  refine setFlight_at x ?_
  intro h' k y
  rw [hf] at y
  exact h h' k y

theorem note_same (hf : env.frame = some L) (x : ExcAt n0 s.heap e cls (rawInt L) ctx) (h : Q () s) : wpAny M A (noteFrame (.ref e) env) Q E s := by
  obtain ⟨oe, vs, T, oT, ts, a1, a2, a3, a4, a5, a6, a7, a8, a9, a10, a11⟩ := id x
  unfold noteFrame
  simp only [hf]
  refine wpAny_bind (wpAny_field a4 a6 a7 ?_)
  rw [if_pos (show (Value.ref T != Value.none) = true from by simp)]
  refine wpAny_bind (wpAny_field a9 a10 a11 ?_)
  rw [if_pos (show (rawInt L == rawInt L) = true from by simp)]
  exact wpAny_pure h

theorem note_new (hA : A.frames = some (env :: outer)) (hf : env.frame = some L) (ok : FrsOk (env :: outer) frs) (hfr : ∀ p ∈ frs, s.heap.get? p.1 = some p.2 ∧ p.1 < n0) (x : ExcNew n0 s.heap e cls ctx)
    (h : ∀ h', Kept n0 (frs.map (·.1)) s.heap h' → ExcAt n0 h' e cls (rawInt L) ctx → Q () { s with heap := h' }) : wpAny M A (noteFrame (.ref e) env) Q E s := by
  obtain ⟨oe, vs, a1, a2, a3, a4, a5, a6⟩ := x
  have hsz : 1 < vs.size := (Array.getElem?_eq_some_iff.mp a5).1
  unfold noteFrame
  simp only [hf]
  refine wpAny_bind (wpAny_field a2 a4 a5 ?_)
  rw [if_neg (by decide)]
  have hl : s.heap.FunFrames ({} : Heap) (env :: outer) := ok.fun fun p hp => ⟨(hfr p hp).1, rfl⟩
  have hmem : ∀ b, b ∈ (env :: outer).filterMap (·.frame) → b ∈ frs.map (·.1) := fun b hb => by rw [ok.frames] at hb; exact hb
  have hlt : ∀ b ∈ frs.map (·.1), b < n0 := fun b hb => by obtain ⟨p, hp, rfl⟩ := List.mem_map.mp hb; exact (hfr p hp).2
  have hene : e ∉ (env :: outer).filterMap (·.frame) := fun hm => by have := hlt _ (hmem _ hm); omega
  refine wpAny_bind (wpAny_frameOf_fun hA hl hf fun h₁ hs₁ => ?_)
  refine wpAny_bind (wpAny_entryPlaceOf fun pl hpl => ?_)
  unfold EntryCells.newEntry newFields
  refine wpAny_bind (wpAny_newObj_type ?_ (hpl.sizeOk5 _ _ _ _ _))
  have he₁ : h₁.get? e = some oe := (hs₁.2.1 e hene).trans a2
  have he₂ := Heap.get?_push_of_some (h := h₁) { cls := .type "traceback", dict := none, data := .fields ([Value.none, .ref L, .none, rawInt L, .none] ++ (if pl.isEmpty then List.replicate 6 Value.none else pl)).toArray } he₁
  refine wpAny_setField he₂ a4 hsz (h _ ?_ ?_)
  · have k1 : Kept n0 (frs.map (·.1)) s.heap h₁ := ⟨Nat.le_of_eq hs₁.1.symm, fun b o _ e => ⟨fun hn => (hs₁.2.1 b fun hm => hn (hmem b hm)).trans e, hs₁.2.2 b o e⟩⟩
    refine k1.trans (Kept.trans (Kept.of_keeps ?_ fun b o e => Heap.get?_push_of_some _ e) (Kept.upd _ a1))
    exact Nat.le_of_lt (by rw [show (Heap.push h₁ _).objs.size = h₁.objs.size + 1 from by cases h₁; simp [Heap.push]]; exact Nat.lt_succ_self _)
  · have hTe : h₁.objs.size ≠ e := Nat.ne_of_gt (Heap.lt_size he₁)
    have hd₃ := Obj.data_mapFields a4 (·.setIfInBounds 1 (Value.ref h₁.objs.size))
    have he₃ := Heap.get?_update_self (Obj.mapFields (·.setIfInBounds 1 (Value.ref h₁.objs.size))) he₂ (Obj.isFreed_of_fields hd₃)
    have hT₃ := (Heap.get?_update_other (h₁.push { cls := .type "traceback", dict := none, data := .fields ([Value.none, .ref L, .none, rawInt L, .none] ++ (if pl.isEmpty then List.replicate 6 Value.none else pl)).toArray })
      (Obj.mapFields (·.setIfInBounds 1 (Value.ref h₁.objs.size))) (Ne.symm hTe)).trans (Heap.get?_push_size h₁ rfl)
    refine ⟨_, _, h₁.objs.size, _, _, a1, Nat.le_trans a1 (Nat.le_of_lt (Heap.lt_size he₁)), hTe, he₃, by rw [Obj.cls_mapFields]; exact a3, hd₃, by simp [hsz], by rw [Array.getElem?_setIfInBounds_ne (by decide)]; exact a6, hT₃, rfl, ?_⟩
    simp
end

/-- the frame and the ledger behind a Kept -/
theorem Kept.ground {g h h' : Heap} {L : Addr} {m : Str → Option Value} {l frs : List (Addr × Obj)} {n0 : Nat} {FR : List Addr} (F : Fr g L h m) (N : News g L h (l ++ frs)) (hoff : OwnOff frs (l.map (·.1)))
    (hn : h.objs.size ≤ n0) (hFR : ∀ b ∈ FR, b = L ∨ b ∈ frs.map (·.1)) (k : Kept n0 FR h h') :
    ∃ frs', SlotsOf frs frs' ∧ Fr g L h' m ∧ News g L h' (l ++ frs') := by
  have lt : ∀ b o, h.get? b = some o → b < n0 := fun b o e => Nat.lt_of_lt_of_le (Heap.lt_size e) hn
  have hL : g.get? L = none := by
    cases q : g.get? L with
    | none => rfl
    | some o => exact absurd (Nat.lt_of_lt_of_le (Heap.lt_size q) F.above) (Nat.lt_irrefl _)
  have F' : Fr g L h' m := by
    obtain ⟨oL, es, ep, hL', hd, r⟩ := F.ns
    obtain ⟨_, sl, q⟩ := k.2 L oL (lt _ _ hL') hL'
    refine ⟨⟨_, es, ep, q, hd, r⟩, fun b o e => (k.2 b o (lt _ _ (F.keep b o e)) (F.keep b o e)).1 fun hm => ?_, F.above⟩
    rcases hFR b hm with rfl | hm
    · rw [hL] at e; cases e
    · obtain ⟨p, hp, rfl⟩ := List.mem_map.mp hm
      rw [(N p (List.mem_append_right _ hp)).2.2] at e; cases e
  have Nl : News g L h' l := fun p hp => by
    have P := N p (List.mem_append_left _ hp)
    refine ⟨(k.2 p.1 p.2 (lt _ _ P.1) P.1).1 fun hm => ?_, P.2⟩
    rcases hFR _ hm with e | hm
    · exact P.2.1 e
    · obtain ⟨q, hq, e⟩ := List.mem_map.mp hm
      exact hoff q hq p.1 (List.mem_map_of_mem hp) e
  have Nf : ∀ fs : List (Addr × Obj), (∀ p ∈ fs, p ∈ frs) → ∃ fs', SlotsOf fs fs' ∧ News g L h' fs' := by
    intro fs
    induction fs with
    | nil => exact fun _ => ⟨[], .nil, News.nil⟩
    | cons p r ih =>
      intro hs
      obtain ⟨r', s', N'⟩ := ih fun q hq => hs q (.tail _ hq)
      have P := N p (List.mem_append_right _ (hs p (.head _)))
      obtain ⟨_, sl, q⟩ := k.2 p.1 p.2 (lt _ _ P.1) P.1
      refine ⟨(p.1, { p.2 with slots := sl }) :: r', SlotsOf.cons (a := p.1) (o := p.2) s', fun z hz => ?_⟩
      rcases List.mem_cons.mp hz with rfl | hz
      · exact ⟨q, P.2⟩
      · exact N' z hz
  obtain ⟨frs', s', N'⟩ := Nf frs fun _ h => h
  exact ⟨frs', s', F', fun p hp => (List.mem_append.mp hp).elim (Nl p) (N' p)⟩
end Mine
end PartExc

section PartExc2
theorem Mine.anewExc2 : True := by
  w_top off
  trivial
open PySem PySem.W PySem.Calls PyProof.Rows
set_option Elab.async false
set_option maxRecDepth 100000
namespace Mine

theorem entry_unchain : entryFor table "proto.unchain" = some Builtin.«proto.unchain» := entryFor_of_tree (by kernel_rfl)

/-- nothing is handled, or an exception that has no context of its own -/
def HOk (A : Around) (h : Heap) : Prop := A.handled = none ∨ ∃ e o vs, A.handled = some (.ref e) ∧ h.get? e = some o ∧ o.data = .fields vs ∧ vs[2]? = some .none

theorem HOk.keeps {A : Around} {h h' : Heap} (x : HOk A h) (k : ∀ b o, h.get? b = some o → h'.get? b = some o) : HOk A h' := by
  rcases x with x | ⟨e, o, vs, a, b, c⟩
  · exact .inl x
  · exact .inr ⟨e, o, vs, a, k _ _ b, c⟩
theorem HOk.in1 {A : Around} {h : Heap} (x : HOk A h) : HOk A.in1 h := x

theorem push_size (h : Heap) (o : Obj) : (h.push o).objs.size = h.objs.size + 1 := by cases h; simp [Heap.push]

section
variable {α : Type} {prog : Program} {w : World} {A : Around} {E : Value → Shared → Prop} {s : Shared}

theorem raiseNew_any {e : Addr} {oe : Obj} {vs : Array Value} {cls : String} {Q : α → Shared → Prop} (hh : HOk A s.heap) (n0 : Nat) (hn : n0 ≤ e) (hfr : ∀ x, A.handled = some (.ref x) → x < n0) (he : s.heap.get? e = some oe) (hc : oe.cls = .type cls) (hd : oe.data = .fields vs)
    (h1 : vs[1]? = some .none) (h2 : vs[2]? = some .none)
    (h : ∀ h' ctx, (A.handled = none → ctx = .none) → (∀ b o, b < n0 → s.heap.get? b = some o → h'.get? b = some o) → s.heap.objs.size ≤ h'.objs.size → ExcNew n0 h' e cls ctx → E (.ref e) { s with heap := h' }) :
    wpAny (model prog w) A (raiseNew (.ref e) : Sem α) Q E s := by
  have hi : 2 < vs.size := (Array.getElem?_eq_some_iff.mp h2).1
  unfold raiseNew
  refine wpAny_bind (wpAny_handled ?_)
  rcases hh with hh | ⟨x, ox, xs, hx, hox, hxd, hx2⟩
  · rw [hh]
    first
      | exact wpAny_throw (h s.heap .none (fun _ => rfl) (fun _ _ _ e => e) (Nat.le_refl _) ⟨oe, vs, hn, he, hc, hd, h1, h2⟩)
      | exact wpAny_bind (wpAny_pure (wpAny_throw (h s.heap .none (fun _ => rfl) (fun _ _ _ e => e) (Nat.le_refl _) ⟨oe, vs, hn, he, hc, hd, h1, h2⟩)))
  · rw [hx]
    have hxe : x ≠ e := fun q => absurd (hfr x hx) (by rw [q]; exact Nat.not_lt.mpr hn)
    dsimp only
    rw [if_pos (show (Value.ref x != Value.ref e) = true from by simp [hxe])]
    refine wpAny_bind (wpAny_holding (wpAny_runValue (codeAny_builtin entry_unchain ?_)))
    show wpAny _ _ (Builtin.«proto.unchain» ⟨[.ref e, .ref x, .ref x, .bool false], []⟩) _ _ s
    unfold Builtin.«proto.unchain»
    dsimp only
    refine wpAny_bind (wpAny_field hox hxd hx2 ?_)
    rw [if_pos (show (Value.none == Value.none) = true from rfl)]
    refine wpAny_pure ?_
    show wpAny _ _ (updateField e 2 (.ref x) >>= _) _ _ s
    unfold updateField
    refine wpAny_bind (wpAny_bind (wpAny_load he ?_))
    rw [hd]
    show wpAny _ _ (if 2 < vs.size then _ else _) _ _ s
    rw [if_pos hi]
    refine wpAny_update he (wpAny_throw (h _ (.ref x) (fun q => by rw [hx] at q; cases q) ?_ (Nat.le_of_eq (Heap.size_after_update ..).symm) ?_))
    · intro b o hb q
      exact (Heap.get?_update_ne _ _ _ _ (Nat.ne_of_lt (Nat.lt_of_lt_of_le hb hn))).trans q
    · refine ⟨_, _, hn, Heap.get?_update_self _ he (Obj.isFreed_of_fields (Obj.data_mapFields hd _)), by rw [Obj.cls_mapFields]; exact hc, Obj.data_mapFields hd _, ?_, ?_⟩
      · rw [Array.getElem?_setIfInBounds_ne (by decide)]; exact h1
      · rw [Array.getElem?_setIfInBounds_self_of_lt hi]

theorem raiseWords_any {cls msg : String} {Q : α → Shared → Prop} (hp : PlainExc cls) (hh : HOk A s.heap)
    (h : ∀ h' tk e ctx, (A.handled = none → ctx = .none) → (∀ b o, s.heap.get? b = some o → h'.get? b = some o) → s.heap.objs.size ≤ h'.objs.size → ExcNew s.heap.objs.size h' e cls ctx → E (.ref e) { s with heap := h', toks := tk }) :
    wpAny (model prog w) A (raiseErrorWords cls msg : Sem α) Q E s := by
  unfold raiseErrorWords
  refine wpAny_bind (wpAny_mkText (wpAny_bind ?_))
  unfold newExc newTuple
  refine wpAny_bind (wpAny_newObj_type ?_)
  refine wpAny_bind (m := firstArgMember _ _) (wpAny_of_eq (a := Value.none) (by simp only [firstArgMember, hp.first]; rfl) ?_)
  rw [hp.own]
  refine wpAny_newObj_type ?_
  have hfr : ∀ x, A.handled = some (.ref x) → x < s.heap.objs.size := fun x hx => by
    rcases hh with q | ⟨e, o, vs, a, b, c⟩
    · rw [q] at hx; cases hx
    · rw [hx] at a; cases a; exact Heap.lt_size b
  refine raiseNew_any (n0 := s.heap.objs.size) (hh := HOk.keeps hh fun b o e => Heap.get?_push_of_some _ (Heap.get?_push_of_some _ e)) (hn := ?_) (hfr := hfr) (he := Heap.get?_push_size _ rfl) (hc := rfl) (hd := rfl) (h1 := ?_) (h2 := ?_) (h := ?_)
  · simp [Heap.push]
  · simp
  · simp
  · intro h' ctx k0 k1 k2 k3
    refine h h' _ _ ctx k0 (fun b o e => k1 b o (Heap.lt_size e) (Heap.get?_push_of_some _ (Heap.get?_push_of_some _ e))) (Nat.le_trans ?_ k2) k3
    show s.heap.objs.size ≤ (Heap.push (Heap.push s.heap _) _).objs.size
    rw [push_size, push_size]; exact Nat.le_add_right _ 2

theorem getItem_out {l : Addr} {items : Array Value} {k : Int} {t : Tok} {Q : Value → Shared → Prop} (hh : HOk A s.heap) (hl : s.heap.IsList l items)
    (h0 : 0 ≤ k) (hout : (items.size : Int) ≤ k) (hhi : k < 2 ^ 63)
    (hE : ∀ h' tk e ctx, (A.handled = none → ctx = .none) → (∀ b o, s.heap.get? b = some o → h'.get? b = some o) → s.heap.objs.size ≤ h'.objs.size → ExcNew s.heap.objs.size h' e "IndexError" ctx → E (.ref e) { s with heap := h', toks := tk }) :
    wpAny (model prog w) A (getItem (.ref l) (.int k t)) Q E s := by
  obtain ⟨o, ho, hc, ne, hd⟩ := id hl
  unfold getItem
  try with_reducible refine wpAny_holding ?_
  first | refine wpAny_bind (wpAny_pure ?_) | skip
  refine wpAny_bind (wpAny_sequenceKey hl.typeIs (by decide) ?_)
  refine wpAny_bind (wpAny_callSpecial?_slot (name := Str.ofString "__getitem__") hl.typeIs slot_list_getitem
    (wpAny_call_entry slot_list_getitem hl.typeIs entry_list_getitem ?_ (args_list_getitem _ _)))
  show wpAny _ _ (Builtin.List.listSubscript? (.int k t) >>= _) _ _ s
  refine wpAny_bind (wpAny_listSubscript_int (fitsIndex_both (by omega) hhi) ?_)
  cases k with
  | ofNat j =>
    have hx : items[j]? = none := Array.getElem?_eq_none (by have : (items.size : Int) ≤ (j : Int) := hout; omega)
    show wpAny _ _ ((seqItemAt l j >>= fun r => pure (r.map (j, ·))) >>= _) _ _ s
    refine wpAny_bind (wpAny_bind (wpAny_seqItemAt ho hd (wpAny_pure ?_)))
    rw [hx]
    first
      | exact wpAny_bind (wpAny_rule (raiseWords_any plainExc_IndexError hh.in1 hE))
      | exact wpAny_bind (wpAny_rule (wpAny_bind (raiseWords_any plainExc_IndexError hh.in1 hE)))
      | exact wpAny_bind (wpAny_bind (wpAny_rule (raiseWords_any plainExc_IndexError hh.in1 hE)))
      | exact wpAny_rule (raiseWords_any plainExc_IndexError hh.in1 hE)
  | negSucc j => exact absurd h0 (by have := Int.negSucc_lt_zero j; omega)

theorem item_out {value slice : PySem.Expr} {l : Addr} {items : Array Value} {k : Int} {u : Tok} {Q : Value → Shared → Prop} (hh : HOk A s.heap) (hl : s.heap.IsList l items)
    (h0 : 0 ≤ k) (hout : (items.size : Int) ≤ k) (hhi : k < 2 ^ 63)
    (hE : ∀ h' tk e ctx, (A.handled = none → ctx = .none) → (∀ b o, s.heap.get? b = some o → h'.get? b = some o) → s.heap.objs.size ≤ h'.objs.size → ExcNew s.heap.objs.size h' e "IndexError" ctx → E (.ref e) { s with heap := h', toks := tk })
    (hs : subscripted slice false (.ref l) (.int k u) = operate [.ref l, .int k u] (getItem (.ref l) (.int k u)) := by with_unfolding_all rfl) :
    wpAny (model prog w) A (subscriptTail value slice (.ref l) (.int k u)) Q E s :=
  tail_any hl.typeIs slot_list_getitem.lookup (getItem_out hh hl h0 hout hhi hE) hs
theorem item_in {value slice : PySem.Expr} {l : Addr} {items : Array Value} {k : Int} {u : Tok} {v : Value} {Q : Value → Shared → Prop} (hl : s.heap.IsList l items)
    (h0 : 0 ≤ k) (hhi : k < 2 ^ 63) (hx : items[k.toNat]? = some v) (h : Q v s)
    (hs : subscripted slice false (.ref l) (.int k u) = operate [.ref l, .int k u] (getItem (.ref l) (.int k u)) := by with_unfolding_all rfl) :
    wpAny (model prog w) A (subscriptTail value slice (.ref l) (.int k u)) Q E s :=
  tail_any hl.typeIs slot_list_getitem.lookup (wpAny_getItem_list hl h0 hhi hx h) hs
end
end Mine
end PartExc2

section PartFrame
theorem Mine.anewFrame : True := by
  w_top off
  trivial
open PySem PySem.W PySem.Calls PyProof.Rows
set_option Elab.async false
set_option maxRecDepth 100000
namespace Mine

/-- a state of a def's frame at L over the frozen heap g: its locals m, the ledger l, the outer frames as frs0 but for slots -/
inductive Stt (g : Heap) (L : Addr) (outer : List Env) (frs0 : List (Addr × Obj)) (s₀ : Shared) (m : Str → Option Value) (l : List (Addr × Obj)) (s' : Shared) : Prop
  | mk (h : Heap) (tk : Nat) (frs : List (Addr × Obj)) (e : s' = { s₀ with heap := h, toks := tk }) (sl : SlotsOf frs0 frs) (ok : FrsOk outer frs) (F : Fr g L h m) (N : News g L h (l ++ frs)) (off : OwnOff frs (l.map (·.1))) : Stt g L outer frs0 s₀ m l s'

/-- n0 lies above all that the frame knows -/
structure Above (n0 : Nat) (L : Addr) (l frs0 : List (Addr × Obj)) : Prop where
  L : L < n0
  l : ∀ p ∈ l, p.1 < n0
  f : ∀ p ∈ frs0, p.1 < n0

section
variable {g : Heap} {L : Addr} {outer : List Env} {frs0 l : List (Addr × Obj)} {s₀ s : Shared} {m : Str → Option Value} {n0 : Nat}

theorem slots_lt {a b : List (Addr × Obj)} (x : SlotsOf a b) (h : ∀ p ∈ a, p.1 < n0) : ∀ p ∈ b, p.1 < n0 := fun p hp => by
  have : p.1 ∈ b.map (·.1) := List.mem_map_of_mem hp
  rw [x.fst] at this
  obtain ⟨q, hq, e⟩ := List.mem_map.mp this
  exact e ▸ h q hq

theorem Stt.above (x : Stt g L outer frs0 s₀ m l s) : Above s.heap.objs.size L l frs0 := by
  obtain ⟨h, tk, frs, rfl, sl, ok, F, N, off⟩ := x
  refine ⟨F.ns.lt, fun p hp => Heap.lt_size (N p (List.mem_append_left _ hp)).1, fun p hp => ?_⟩
  have : p.1 ∈ frs.map (·.1) := by rw [sl.fst]; exact List.mem_map_of_mem hp
  obtain ⟨q, hq, e⟩ := List.mem_map.mp this
  exact e ▸ Heap.lt_size (N q (List.mem_append_right _ hq)).1

theorem Kept.ground2 {h h' : Heap} {frs : List (Addr × Obj)} {FR : List Addr} (F : Fr g L h m) (N : News g L h (l ++ frs)) (hoff : OwnOff frs (l.map (·.1)))
    (a : Above n0 L l frs) (hFR : ∀ b ∈ FR, b = L ∨ b ∈ frs.map (·.1)) (k : Kept n0 FR h h') :
    ∃ frs', SlotsOf frs frs' ∧ Fr g L h' m ∧ News g L h' (l ++ frs') := by
  have hL : g.get? L = none := by
    cases q : g.get? L with
    | none => rfl
    | some o => exact absurd (Nat.lt_of_lt_of_le (Heap.lt_size q) F.above) (Nat.lt_irrefl _)
  have ltG : ∀ b o, g.get? b = some o → b < n0 := fun b o e => Nat.lt_trans (Nat.lt_of_lt_of_le (Heap.lt_size e) F.above) a.L
  have F' : Fr g L h' m := by
    obtain ⟨oL, es, ep, hL', hd, r⟩ := F.ns
    obtain ⟨_, sl, q⟩ := k.2 L oL a.L hL'
    refine ⟨⟨_, es, ep, q, hd, r⟩, fun b o e => (k.2 b o (ltG b o e) (F.keep b o e)).1 fun hm => ?_, F.above⟩
    rcases hFR b hm with rfl | hm
    · rw [hL] at e; cases e
    · obtain ⟨p, hp, rfl⟩ := List.mem_map.mp hm
      rw [(N p (List.mem_append_right _ hp)).2.2] at e; cases e
  have Nl : News g L h' l := fun p hp => by
    have P := N p (List.mem_append_left _ hp)
    refine ⟨(k.2 p.1 p.2 (a.l p hp) P.1).1 fun hm => ?_, P.2⟩
    rcases hFR _ hm with e | hm
    · exact P.2.1 e
    · obtain ⟨q, hq, e⟩ := List.mem_map.mp hm
      exact hoff q hq p.1 (List.mem_map_of_mem hp) e
  have Nf : ∀ fs : List (Addr × Obj), (∀ p ∈ fs, p ∈ frs) → ∃ fs', SlotsOf fs fs' ∧ News g L h' fs' := by
    intro fs
    induction fs with
    | nil => exact fun _ => ⟨[], .nil, News.nil⟩
    | cons p r ih =>
      intro hs
      obtain ⟨r', s', N'⟩ := ih fun q hq => hs q (.tail _ hq)
      have P := N p (List.mem_append_right _ (hs p (.head _)))
      obtain ⟨_, sl, q⟩ := k.2 p.1 p.2 (a.f p (hs p (.head _))) P.1
      refine ⟨(p.1, { p.2 with slots := sl }) :: r', SlotsOf.cons (a := p.1) (o := p.2) s', fun z hz => ?_⟩
      rcases List.mem_cons.mp hz with rfl | hz
      · exact ⟨q, P.2⟩
      · exact N' z hz
  obtain ⟨frs', s', N'⟩ := Nf frs fun _ h => h
  exact ⟨frs', s', F', fun p hp => (List.mem_append.mp hp).elim (Nl p) (N' p)⟩

theorem Stt.kept {FR : List Addr} {h' : Heap} (x : Stt g L outer frs0 s₀ m l s) (a : Above n0 L l frs0) (hFR : ∀ b ∈ FR, b = L ∨ b ∈ frs0.map (·.1)) (k : Kept n0 FR s.heap h') : Stt g L outer frs0 s₀ m l { s with heap := h' } := by
  obtain ⟨h, tk, frs, rfl, sl, ok, F, N, off⟩ := x
  obtain ⟨frs', sl', F', N'⟩ := Kept.ground2 F N off ⟨a.L, a.l, slots_lt sl a.f⟩ (fun b hb => by rw [sl.fst]; exact hFR b hb) k
  refine ⟨h', tk, frs', rfl, sl.trans sl', ok.slots sl', F', N', fun p hp b hb => ?_⟩
  have : p.1 ∈ frs'.map (·.1) := List.mem_map_of_mem hp
  rw [sl'.fst] at this
  obtain ⟨q, hq, e⟩ := List.mem_map.mp this
  exact e ▸ off q hq b hb

/-- an exception in flight in the own frame -/
def Aloft (n0 : Nat) (L : Addr) (h : Heap) (e : Addr) (cls : String) (ctx : Value) : Prop := ExcNew n0 h e cls ctx ∨ ExcAt n0 h e cls (rawInt L) ctx

theorem Stt.grow {h' : Heap} {tk : Nat} (x : Stt g L outer frs0 s₀ m l s) (k : ∀ b o, s.heap.get? b = some o → h'.get? b = some o) : Stt g L outer frs0 s₀ m l { s with heap := h', toks := tk } := by
  obtain ⟨h, tk', frs, rfl, sl, ok, F, N, off⟩ := x
  obtain ⟨oL, es, ep, hL, r⟩ := F.ns
  exact ⟨h', tk, frs, rfl, sl, ok, ⟨⟨oL, es, ep, k _ _ hL, r⟩, fun b o e => k _ _ (F.keep b o e), F.above⟩, fun p hp => ⟨k _ _ (N p hp).1, (N p hp).2⟩, off⟩
theorem Stt.tok {tk : Nat} (x : Stt g L outer frs0 s₀ m l s) : Stt g L outer frs0 s₀ m l { s with toks := tk } := x.grow (h' := s.heap) fun _ _ e => e
theorem Stt.fr (x : Stt g L outer frs0 s₀ m l s) : Fr g L s.heap m := by obtain ⟨h, tk', frs, rfl, sl, ok, F, N, off⟩ := x; exact F
theorem Stt.news (x : Stt g L outer frs0 s₀ m l s) : News g L s.heap l := by obtain ⟨h, tk', frs, rfl, sl, ok, F, N, off⟩ := x; exact fun p hp => N p (List.mem_append_left _ hp)

variable {prog : Program} {w : World} {A : Around} {E : Value → Shared → Prop} {env : Env} {e : Addr} {cls : String} {ctx fl : Value} {Q : Unit → Shared → Prop}

theorem Stt.ld {name : Str} {scope : Scope} {fa : Addr} {cd : Value} {x : Str} {pos : Pos} {v : Value} {Q : Value → Shared → Prop} (y : Stt g L outer frs0 s₀ m l s) (hv : m x = some v) (h : Q v s)
    (hk : scope.kind = .function) (hl : (envOf name scope L fa cd).kindOf x = some .local) (hd : (x == ("__debug__" : Str)) = false) :
    wpAny (model prog w) A (eval (.Name x pos) (envOf name scope L fa cd)) Q E s := PyProof.Rows.ld y.fr hv h hk hl hd
theorem Stt.ldn {name : Str} {scope : Scope} {fa : Addr} {cd : Value} {x : Str} {v : Value} {Q : Value → Shared → Prop} (y : Stt g L outer frs0 s₀ m l s) (hv : m x = some v) (h : Q v s)
    (hk : scope.kind = .function) (hl : (envOf name scope L fa cd).kindOf x = some .local) :
    wpAny (model prog w) A (loadName (envOf name scope L fa cd) x) Q E s := PyProof.Rows.ldn y.fr hv h hk hl
theorem Stt.st {name : Str} {scope : Scope} {fa : Addr} {cd : Value} {x : Str} {v : Value} {Q : Unit → Shared → Prop} (y : Stt g L outer frs0 s₀ m l s)
    (h : ∀ s', Stt g L outer frs0 s₀ (fun z => if z = x then some v else m z) l s' → Q () s')
    (hk : scope.kind = .function) (hl : (envOf name scope L fa cd).kindOf x = some .local) :
    wpAny (model prog w) A (storeName (envOf name scope L fa cd) x v) Q E s := by
  obtain ⟨h', tk', frs, rfl, sl, ok, F, N, off⟩ := y
  exact stN F N (fun h₂ F₂ N₂ => h _ ⟨h₂, _, frs, rfl, sl, ok, F₂, N₂, off⟩) hk hl

theorem Stt.note (x : Stt g L outer frs0 s₀ m l s) (a : Above n0 L l frs0) (hA : A.frames = some (env :: outer)) (hf : env.frame = some L) (hk : env.scope.kind = .function) (y : Aloft n0 L s.heap e cls ctx)
    (h : ∀ s', Stt g L outer frs0 s₀ m l s' → ExcAt n0 s'.heap e cls (rawInt L) ctx → Q () s') : wpAny (model prog w) A (noteFrame (.ref e) env) Q E s := by
  rcases y with y | y
  · obtain ⟨h', tk, frs, rfl, sl, ok, F, N, off⟩ := id x
    obtain ⟨oL, es, ep, hL, hLd, _⟩ := F.ns
    refine note_new (frs := (L, oL) :: frs) hA hf (.cons (by rw [hk]; decide) hf (fun vs q => by rw [hLd] at q; cases q) ok) (fun p hp => ?_) y fun h₂ k z => h _ (x.kept a (fun b hb => ?_) k) z
    · rcases List.mem_cons.mp hp with rfl | hp
      · exact ⟨hL, a.L⟩
      · exact ⟨(N p (List.mem_append_right _ hp)).1, slots_lt sl a.f p hp⟩
    · rw [List.map_cons, sl.fst] at hb
      exact (List.mem_cons.mp hb).elim .inl .inr
  · exact note_same hf y (h _ x y)

theorem Stt.flight {fr : Option Addr} (x : Stt g L outer frs0 s₀ m l s) (a : Above n0 L l frs0) (y : ExcAt n0 s.heap e cls fl ctx)
    (h : ∀ s', Stt g L outer frs0 s₀ m l s' → ExcAt n0 s'.heap e cls (fr.elim .none fun f => rawInt f) ctx → Q () s') : wpAny (model prog w) A (setFlight (.ref e) fr) Q E s := by
  exact setFlight_at y fun h' k z => h _ (x.kept (FR := []) a (fun b hb => by cases hb) k) z

theorem Stt.came (x : Stt g L outer frs0 s₀ m l s) (a : Above n0 L l frs0) (hf : env.frame = some L) (y : ExcAt n0 s.heap e cls fl ctx)
    (h : ∀ s', Stt g L outer frs0 s₀ m l s' → ExcAt n0 s'.heap e cls (rawInt L) ctx → E (.ref e) s') : cameBackBy (model prog w) A env E (.ref e) s :=
  cameBack_at hf y fun h' k z => h _ (x.kept (FR := []) a (fun b hb => by cases hb) k) z

theorem Stt.passOn {what : String} {α : Type} {Q : α → Shared → Prop} (x : Stt g L outer frs0 s₀ m l s) (a : Above n0 L l frs0) (hf : env.frame = some L) (y : ExcAt n0 s.heap e cls fl ctx)
    (h : ∀ s', Stt g L outer frs0 s₀ m l s' → ExcAt n0 s'.heap e cls (rawInt L) ctx → E (.ref e) s') : wpAny (model prog w) A (PySem.passOn what (.ref e) env : Sem α) Q E s := by
  obtain ⟨oe, vs, T, oT, ts, a1, a2, a3, a4, a5, a6, a7, a8, a9, a10, a11⟩ := id y
  unfold PySem.passOn
  refine wpAny_bind (wpAny_field a4 a6 a7 ?_)
  rw [if_neg (show ¬ (Value.ref T == Value.none) = true from by simp)]
  refine wpAny_bind (setFlight_at y ?_)
  intro h' k z
  rw [hf] at z
  exact wpAny_throw (h _ (x.kept (FR := []) a (fun b hb => by cases hb) k) z)

theorem Stt.sub {l' : List (Addr × Obj)} (x : Stt g L outer frs0 s₀ m l s) (hs : ∀ p ∈ l', p ∈ l) : Stt g L outer frs0 s₀ m l' s := by
  obtain ⟨h, tk', frs, rfl, sl, ok, F, N, off⟩ := x
  refine ⟨h, tk', frs, rfl, sl, ok, F, fun p hp => N p ?_, fun p hp b hb => off p hp b ?_⟩
  · rcases List.mem_append.mp hp with hp | hp
    · exact List.mem_append_left _ (hs p hp)
    · exact List.mem_append_right _ hp
  · obtain ⟨q, hq, rfl⟩ := List.mem_map.mp hb
    exact List.mem_map_of_mem (hs q hq)
theorem Above.sub {l' : List (Addr × Obj)} (x : Above n0 L l frs0) (hs : ∀ p ∈ l', p ∈ l) : Above n0 L l' frs0 := ⟨x.L, fun p hp => x.l p (hs p hp), x.f⟩

theorem Stt.withExc (x : Stt g L outer frs0 s₀ m l s) (a : Above n0 L l frs0) (y : ExcAt n0 s.heap e cls fl ctx) :
    ∃ oe T oT, Stt g L outer frs0 s₀ m (l ++ [(e, oe), (T, oT)]) s ∧ (∀ h, News g L h [(e, oe), (T, oT)] → ExcAt n0 h e cls fl ctx) ∧ ∃ vs, oe.data = .fields vs ∧ vs[2]? = some ctx := by
  obtain ⟨oe, vs, T, oT, ts, a1, a2, a3, a4, a5, a6, a7, a8, a9, a10, a11⟩ := y
  obtain ⟨h, tk', frs, rfl, sl, ok, F, N, off⟩ := x
  have hg : ∀ b, n0 ≤ b → b ≠ L ∧ g.get? b = none := fun b hb => by
    refine ⟨fun q => absurd a.L (by rw [← q]; exact Nat.not_lt.mpr hb), ?_⟩
    cases q : g.get? b with
    | none => rfl
    | some o => exact absurd (Nat.lt_trans (Nat.lt_of_lt_of_le (Heap.lt_size q) F.above) a.L) (Nat.not_lt.mpr hb)
  refine ⟨oe, T, oT, ⟨h, tk', frs, rfl, sl, ok, F, fun p hp => ?_, fun p hp b hb => ?_⟩, fun h' N' => ?_, vs, a6, a8⟩
  · rcases List.mem_append.mp hp with hp | hp
    · rcases List.mem_append.mp hp with hp | hp
      · exact N p (List.mem_append_left _ hp)
      · rcases List.mem_cons.mp hp with rfl | hp
        · exact ⟨a4, hg _ a1⟩
        · rw [List.mem_singleton.mp hp]; exact ⟨a9, hg _ a2⟩
    · exact N p (List.mem_append_right _ hp)
  · rw [List.map_append] at hb
    rcases List.mem_append.mp hb with hb | hb
    · exact off p hp b hb
    · have hlt := slots_lt sl a.f p hp
      rcases List.mem_cons.mp hb with rfl | hb
      · exact Nat.ne_of_lt (Nat.lt_of_lt_of_le hlt a1)
      · rw [List.mem_singleton.mp hb]; exact Nat.ne_of_lt (Nat.lt_of_lt_of_le hlt a2)
  · exact ⟨oe, vs, T, oT, ts, a1, a2, a3, (N' _ (.head _)).1, a5, a6, a7, a8, (N' _ (.tail _ (.head _))).1, a10, a11⟩

/-- an exception caught by the one clause that names its class -/
theorem Stt.caught {mg mb : Str → Option Value} {p : Program} {loose : List Str} {name : Str} {scope : Scope} {fa : Addr} {cd : Value} {x : Str} {np pos : Pos} {b₀ : Stmt} {suite : List Stmt} {Q : Flow → Shared → Prop}
    (y : Stt g L outer frs0 s₀ m l s) (a : Above n0 L l frs0) (hA : A.frames = some (envOf name scope L fa cd :: outer)) (al : Aloft n0 L s.heap e cls ctx)
    (T : TopRead p loose mg mb g) (hmg : mg x = none) (hv : bootBuiltins x = some (.type cls)) (hn : x ≠ "__name__")
    (hexc : isSubtype (.type cls) (.type "BaseException") = pure true) (hnt : isSubtype (.type ((Manifest.find? cls).elim "type" fun y => y.metatype)) (.type "tuple") = pure false) (hsub : isSubtype (.type cls) (.type cls) = pure true)
    (hk : scope.kind = .function) (hx : (envOf name scope L fa cd).kindOf x = some .globalImplicit) (hd : (x == ("__debug__" : Str)) = false)
    (k : ∀ s', Stt g L outer frs0 s₀ m l s' → ExcAt n0 s'.heap e cls .none ctx → wpAny (model prog w) (A.mark (some (.ref e))) (execs (b₀ :: suite) (envOf name scope L fa cd)) Q (fun _ _ => False) s') :
    wpAny (model prog w) A (noteFrame (.ref e) (envOf name scope L fa cd))
      (fun _ s₂ => wpAny (model prog w) A (setFlight (.ref e) none) (fun _ s₃ =>
        wpAny (model prog w) A (handleBy (.ref e) (envOf name scope L fa cd) [.ExceptHandler (some (.Name x np)) none (b₀ :: suite) pos]) Q E s₃) E s₂) E s := by
  refine y.note a hA rfl hk al fun s₁ y₁ e₁ => ?_
  refine y₁.flight a e₁ fun s₂ y₂ e₂ => ?_
  refine wpAny_handleBy_builtin (X := cls) (T := cls) (b := true) hexc hnt hsub ?_
  have F := (show ∃ h, s₂.heap = h ∧ Fr g L h m from by obtain ⟨h, tk, frs, rfl, _, _, F, _⟩ := y₂; exact ⟨h, rfl, F⟩)
  obtain ⟨h, rfl, F⟩ := F
  refine ld_builtin_at F T.g hmg T.b ((T.builtins x hn).trans hv) ⟨rfl, e₂.type, ?_⟩ hk hx hd
  simp only [if_true]
  refine y₂.flight a e₂ fun s₃ y₃ e₃ => ?_
  exact wpAny_mono (k s₃ y₃ e₃) (fun _ _ q => q) fun _ _ q => q.elim
end
end Mine
end PartFrame

section PartSkip
theorem Mine.anewSkip : True := by
  w_top off
  trivial
open PySem PySem.W PySem.Calls PyProof.Rows
set_option Elab.async false
set_option maxRecDepth 100000
namespace Mine

def ListAt (g : Heap) (a : Addr) (xs : List Int) : Prop := ∃ vs, g.IsList a (List.toArray vs) ∧ IntsAre vs xs
theorem ListAt.keeps {g g' : Heap} {a : Addr} {xs : List Int} (x : ListAt g a xs) (k : g.StaysIn g') : ListAt g' a xs :=
  let ⟨vs, h, i⟩ := x; ⟨vs, h.at fun _ e => k _ _ e, i⟩

section
variable {g : Heap} {L : Addr} {outer : List Env} {frs0 l : List (Addr × Obj)} {s₀ s : Shared} {m : Str → Option Value}
  {prog : Program} {w : World} {A : Around} {E : Value → Shared → Prop} {name : Str} {scope : Scope} {fa : Addr} {cd : Value} {Q : Flow → Shared → Prop}
  {xn inn en : Str} {ax : Addr} {xs : List Int} {ev : Int} {i : Nat} {ti te : Tok} {p1 p2 p3 p4 p5 p6 p7 p8 p9 : Pos} {k7 : Nat}

theorem skip_loop (hk : scope.kind = .function) (kx : (envOf name scope L fa cd).kindOf xn = some .local) (ki : (envOf name scope L fa cd).kindOf inn = some .local) (ke : (envOf name scope L fa cd).kindOf en = some .local)
    (dx : (xn == ("__debug__" : Str)) = false) (di : (inn == ("__debug__" : Str)) = false) (de : (en == ("__debug__" : Str)) = false) (nx : xn ≠ inn) (ne : en ≠ inn)
    (hA : A.frames = some (envOf name scope L fa cd :: outer)) (hH : ∀ h, News g L h l → HOk A h) (hl : ListAt g ax xs) (hz : xs.length ≤ 2 ^ 60)
    (x : Stt g L outer frs0 s₀ m l s) (mx : m xn = some (.ref ax)) (mi : m inn = some (.int i ti)) (me : m en = some (.int ev te)) (hi : i ≤ xs.length)
    (hQ : ∀ (i' : Nat) ti' m' s', i ≤ i' → i' < xs.length → xs.drop i' = (xs.drop i).dropWhile (· == ev) → m' inn = some (.int i' ti') → (∀ z, z ≠ inn → m' z = m z) → Stt g L outer frs0 s₀ m' l s' → Q .next s')
    (hE : ∀ e n0 ctx ti' m' s', (A.handled = none → ctx = .none) → (xs.drop i).dropWhile (· == ev) = [] → m' inn = some (.int xs.length ti') → (∀ z, z ≠ inn → m' z = m z) → Stt g L outer frs0 s₀ m' l s' → Above n0 L l frs0 →
      ExcAt n0 s'.heap e "IndexError" (rawInt L) ctx → E (.ref e) s') :
    wpAny (model prog w) A (exec (.While (.Compare (.Subscript (.Name xn p1) (.Name inn p2) p3) [.Eq] [.Name en p4] p5) [.AugAssign (.Name inn p6) .Add (.Constant (.int 1) k7 p7) p8] [] p9) (envOf name scope L fa cd)) Q E s := by
  obtain ⟨vs, hvs, hints⟩ := hl
  have hlen : vs.length = xs.length := hints.length
  refine wpAny_While (codeAny_whileLoop (fun n s' => ∃ (i' : Nat) (ti' : Tok) (m' : Str → Option Value), n = xs.length + 1 - i' ∧ i ≤ i' ∧ i' ≤ xs.length ∧ (xs.drop i').dropWhile (· == ev) = (xs.drop i).dropWhile (· == ev) ∧ m' inn = some (.int i' ti') ∧ (∀ z, z ≠ inn → m' z = m z) ∧ Stt g L outer frs0 s₀ m' l s')
    ?_ (xs.length + 1 - i) ⟨i, ti, m, rfl, Nat.le_refl _, hi, rfl, mi, fun _ _ => rfl, x⟩)
  rintro n s' ⟨i', ti', m', rfl, h1, h2, hd, mi', mz, y⟩
  refine wpAny_isTrue_Compare1 (Subscript_ (y.ld ((mz _ nx).trans mx) (y.ld mi' ?_ hk ki di) hk kx dx))
  have hls : s'.heap.IsList ax vs.toArray := hvs.at fun o e => y.fr.keep ax o e
  have hi63 : (i' : Int) < 2 ^ 63 := by have : (2:Int)^60 < 2^63 := by decide
                                        have : (xs.length : Int) ≤ 2^60 := by exact_mod_cast hz
                                        omega
  by_cases hlt : i' < xs.length
  · obtain ⟨t, hx⟩ := hints.get i' xs[i'] (by simp [hlt])
    refine item_in hls (Int.natCast_nonneg _) hi63 (v := .int xs[i'] t) (by simpa using hx) ?_
    refine y.ld ((mz _ ne).trans me) (eq_int (wpAny_truthy_bool ?_)) hk ke de
    have hdrop : xs.drop i' = xs[i'] :: xs.drop (i' + 1) := List.drop_eq_getElem_cons hlt
    by_cases he : xs[i'] = ev
    · rw [if_pos (by simp [he])]
      refine wpAny_execs_cons (wpAny_AugAssign_Name (y.ldn mi' (wpAny_Constant_int (iadd_int ((y.tok (tk := _)).st (fun s₂ y₂ => ?_) hk ki))) hk ki))
      refine wpAny_execs_nil ⟨xs.length + 1 - (i' + 1), by omega, i' + 1, _, _, rfl, by omega, hlt, ?_, by simp; rfl, fun z hzz => ?_, y₂⟩
      · rw [← hd, hdrop, List.dropWhile_cons, if_pos (by simp [he])]
      · simp only [if_neg hzz]; exact mz z hzz
    · rw [if_neg (by simp [he])]
      refine wpAny_execs_nil (hQ i' ti' m' s' h1 hlt ?_ mi' mz y)
      rw [← hd, hdrop, List.dropWhile_cons, if_neg (by simp [he])]
  · have hie : i' = xs.length := by omega
    subst hie
    refine item_out (hH _ y.news) hls (Int.natCast_nonneg _) (by simp [hlen]) hi63 fun h' tk e ctx k0 k1 k2 k3 => ?_
    have y₁ := y.grow (tk := tk) k1
    refine y₁.note (n0 := s'.heap.objs.size) y.above hA rfl hk (.inl k3) fun s₂ y₂ e₂ => ?_
    refine y₂.came y.above rfl e₂ fun s₃ y₃ e₃ => ?_
    exact hE e _ ctx ti' m' s₃ k0 (by rw [← hd]; simp) mi' mz y₃ y.above e₃
end
end Mine
end PartSkip

section PartSldP
theorem Mine.anewSldP : True := by
  w_top off
  trivial
open PySem PySem.W PySem.Calls PyProof.Rows
set_option Elab.async false
namespace Mine
/-- what sorted_list_difference reckons -/
noncomputable def sldP : List Int → List Int → List Int × List Int
  | [], ys => ([], ys)
  | x :: xs, [] => (x :: xs, [])
  | x :: xs, y :: ys =>
    if x < y then let r := sldP (xs.dropWhile (· == x)) (y :: ys); (x :: r.1, r.2)
    else if y < x then let r := sldP (x :: xs) (ys.dropWhile (· == y)); (r.1, y :: r.2)
    else sldP (xs.dropWhile (· == x)) (ys.dropWhile (· == y))
termination_by xs ys => xs.length + ys.length
decreasing_by
  all_goals simp_wf
  all_goals have h1 := (List.dropWhile_suffix (fun z => z == x) (l := xs)).length_le
  all_goals have h2 := (List.dropWhile_suffix (fun z => z == y) (l := ys)).length_le
  all_goals omega

section
variable {α : Type} {P : α → Prop} {a : α} {l l' : List α}
theorem all_nil : ∀ x ∈ ([] : List α), P x := fun _ h => by cases h
theorem all_cons (h : P a) (t : ∀ x ∈ l, P x) : ∀ x ∈ a :: l, P x := fun x hx => by
  rcases List.mem_cons.mp hx with e | e
  · rw [e]; exact h
  · exact t x e
theorem all_app (h : ∀ x ∈ l, P x) (t : ∀ x ∈ l', P x) : ∀ x ∈ l ++ l', P x := fun x hx => (List.mem_append.mp hx).elim (h x) (t x)
variable {L L' F F' : List (Addr × Obj)} {A : List Addr} {p : Addr × Obj}
theorem own_of (sub : ∀ q ∈ L, q ∈ L') (h : OwnOff F (L'.map (·.1))) : OwnOff F (L.map (·.1)) := fun p hp b hb => by
  obtain ⟨q, hq, e⟩ := List.mem_map.mp hb
  exact h p hp b (List.mem_map.mpr ⟨q, sub q hq, e⟩)
theorem own_app (h : OwnOff F (L.map (·.1))) (t : OwnOff F (L'.map (·.1))) : OwnOff F ((L ++ L').map (·.1)) := fun p hp b hb => by
  rw [List.map_append] at hb
  exact (List.mem_append.mp hb).elim (h p hp b) (t p hp b)
theorem own_right (h : OwnOff (F' ++ F) A) : OwnOff F A := fun p hp => h p (List.mem_append_right _ hp)
theorem own_nil : OwnOff [] A := fun _ h => by cases h
theorem own_cons (h : ∀ b ∈ A, @Ne Nat p.1 b) (t : OwnOff F A) : OwnOff (p :: F) A := all_cons (P := fun p : Addr × Obj => ∀ b ∈ A, @Ne Nat p.1 b) h t
theorem own_both (h : OwnOff F A) (t : OwnOff F' A) : OwnOff (F ++ F') A := all_app (P := fun p : Addr × Obj => ∀ b ∈ A, @Ne Nat p.1 b) h t
/-- an address that no entry holds -/
theorem off_mem {x : Addr} (h : x ∉ L.map (·.1)) : ∀ b ∈ L.map (·.1), @Ne Nat x b := fun b hb e => h (by rw [show x = b from e]; exact hb)
theorem off_all {x : Addr} (h : ∀ q ∈ L, @Ne Nat q.1 x) : ∀ b ∈ L.map (·.1), @Ne Nat x b := fun b hb e => by
  obtain ⟨q, hq, e'⟩ := List.mem_map.mp hb
  exact h q hq (e'.trans (Eq.symm e))
end
/-- a goal hidden behind a name, while what stands around it is taken apart -/
theorem hide {P : Prop} (h : ∀ G : Prop, (P → G) → G) : P := h P id
/-- a goal over a value and a state, hidden alike -/
theorem hide2 {α β : Type} {Q : α → β → Prop} {v : α} {s : β} (h : ∀ Q' : α → β → Prop, (∀ v s, Q v s → Q' v s) → Q' v s) : Q v s := h Q fun _ _ x => x
/-- a tree's ends hidden behind names -/
theorem wp_veil {α : Type} {M : Model} {B : Around} {E' : Value → Shared → Prop} {s' : Shared} {t : Sem α} {post : α → Shared → Prop}
    (h : ∀ (Q : α → Shared → Prop) (E₁ : Value → Shared → Prop), (∀ f s₁, post f s₁ → Q f s₁) → (∀ e s₁, E' e s₁ → E₁ e s₁) → wpAny M B t Q E₁ s') : wpAny M B t post E' s' := h post E' (fun _ _ x => x) fun _ _ x => x
theorem exec_then {M : Model} {A : Around} {E : Value → Shared → Prop} {s : Shared} {env : Env} {st : Stmt} {r : List Stmt} {Q : Flow → Shared → Prop}
    (h : ∀ Q' : Flow → Shared → Prop, (∀ f s₁, (match f with | .next => wpAny M A (execs r env) Q E s₁ | f => Q f s₁) → Q' f s₁) → wpAny M A (exec st env) Q' E s) : wpAny M A (execs (st :: r) env) Q E s :=
  wpAny_execs_cons (h _ fun _ _ x => x)
/-- the locals, some of them written out -/
theorem frame_as {m : Str → Option Value} (ps : List (Str × Value)) (h : ∀ p ∈ ps, m p.1 = some p.2) : m = fun y => match ps.lookup y with | some v => some v | none => m y := by
  funext y
  cases q : ps.lookup y with
  | none => rfl
  | some v =>
    have : ∀ l : List (Str × Value), (∀ p ∈ l, m p.1 = some p.2) → l.lookup y = some v → m y = some v := by
      intro l
      induction l with
      | nil => intro _ e; cases e
      | cons p r ih =>
        intro hh e
        rw [List.lookup_cons] at e
        split at e
        · rename_i b; cases e; rw [eq_of_beq b]; exact hh p (.head _)
        · exact ih (fun q hq => hh q (.tail _ hq)) e
    exact this ps h q
end Mine
end PartSldP

section PartRules
theorem Mine.anewRules : True := by
  w_top off
  trivial
open PySem PySem.W PySem.Calls PyProof.Rows
set_option Elab.async false
set_option maxRecDepth 100000
namespace Mine
/-- a place at which the walk shall stand -/
def Stop (P : Prop) : Prop := P
theorem stopAt {P : Prop} (h : Stop P) : P := h

theorem if_then {M : Model} {A : Around} {E : Value → Shared → Prop} {s : Shared} {env : Env} {test : Expr} {body orelse : List Stmt} {pos : Pos} {Q : Flow → Shared → Prop}
    (h : ∀ Q' : Bool → Shared → Prop, (∀ b s₁, (if b then wpAny M A (execs body env) Q E s₁ else wpAny M A (execs orelse env) Q E s₁) → Q' b s₁) → wpAny M A (isTrue test env (eval test env)) Q' E s) : wpAny M A (exec (.If test body orelse pos) env) Q E s :=
  wpAny_If (h _ fun _ _ x => x)

section
variable {prog : Program} {w : World} {A : Around} {E : Value → Shared → Prop} {s : Shared} {h₀ : Heap} {L D b : Addr} {m : Str → Option Value} {news news' : List (Addr × Obj)} {its its2 : Array Value} {n n2 : Nat}
noncomputable def extE (its its2 : Array Value) (n : Nat) : Nat := if (its ++ its2).size == its.size then n else n + 1
theorem ext_K {Q : Value → Shared → Prop} (F : Fr h₀ L s.heap m) (N : News h₀ L s.heap news) (hb : s.heap.get? b = some (listOf its2 n2)) (U : Upd D (listOf its n) (listOf (its ++ its2) (extE its its2 n)) news news') (hz : its.size + its2.size ≤ sizeLine)
    (h : ∀ h', Fr h₀ L h' m → News h₀ L h' news' → Q .none { s with heap := h' }) : wpAny (model prog w) A (call (.builtin "list.extend") [.ref D, .ref b]) Q E s := by
  obtain ⟨pre, post, rfl, rfl, a, c⟩ := U.split
  have z := N (D, listOf its n) (List.mem_append.mpr (.inr (.head _)))
  have K := news_upd F N a c (f := Obj.mapSeq fun x => x ++ its2) (o' := listOf (its ++ its2) (extE its its2 n)) rfl rfl
  exact call_meets PySem.F.slot_list_extend ⟨_, z.1, rfl⟩ PySem.F.entry_list_extend (PySem.F.args_list_extend_2 _ _)
    (PySem.AutoSeq1.list_extend_list_list_0 D its n b its2 n2 (extend_door hz) (Nat.le_trans (Nat.le_add_right _ _) hz) (Nat.le_succ_of_le hz)) ⟨z.1, hb, h _ K.1 K.2⟩
theorem extT_K {Q : Value → Shared → Prop} (F : Fr h₀ L s.heap m) (N : News h₀ L s.heap news) (hb : s.heap.get? b = some { cls := .type "tuple", data := .seq its2 n2 }) (U : Upd D (listOf its n) (listOf (its ++ its2) (extE its its2 n)) news news') (hz : its.size + its2.size ≤ sizeLine)
    (h : ∀ h', Fr h₀ L h' m → News h₀ L h' news' → Q .none { s with heap := h' }) : wpAny (model prog w) A (call (.builtin "list.extend") [.ref D, .ref b]) Q E s := by
  obtain ⟨pre, post, rfl, rfl, a, c⟩ := U.split
  have z := N (D, listOf its n) (List.mem_append.mpr (.inr (.head _)))
  have K := news_upd F N a c (f := Obj.mapSeq fun x => x ++ its2) (o' := listOf (its ++ its2) (extE its its2 n)) rfl rfl
  exact call_meets PySem.F.slot_list_extend ⟨_, z.1, rfl⟩ PySem.F.entry_list_extend (PySem.F.args_list_extend_2 _ _)
    (PySem.AutoSeq1.list_extend_list_tuple_0 D its n b its2 n2 (extend_door hz) (Nat.le_trans (Nat.le_add_right _ _) hz) (Nat.le_succ_of_le hz)) ⟨z.1, hb, h _ K.1 K.2⟩
noncomputable def clrE (its : Array Value) (n : Nat) : Nat := if (#[] : Array Value).size == its.size then n else n + 1
theorem clear_K {Q : Value → Shared → Prop} (F : Fr h₀ L s.heap m) (N : News h₀ L s.heap news) (U : Upd D (listOf its n) (listOf #[] (clrE its n)) news news') (hz : its.size ≤ sizeLine)
    (h : ∀ h', Fr h₀ L h' m → News h₀ L h' news' → Q .none { s with heap := h' }) : wpAny (model prog w) A (call (.builtin "list.clear") [.ref D]) Q E s := by
  obtain ⟨pre, post, rfl, rfl, a, c⟩ := U.split
  have z := N (D, listOf its n) (List.mem_append.mpr (.inr (.head _)))
  have K := news_upd F N a c (f := Obj.mapSeq fun _ => #[]) (o' := listOf #[] (clrE its n)) rfl rfl
  exact call_meets PySem.F.slot_list_clear ⟨_, z.1, rfl⟩ PySem.F.entry_list_clear (PySem.F.args_list_clear_1 _) (PySem.AutoSeq1.list_clear_list_0 D its n hz) ⟨z.1, h _ K.1 K.2⟩
theorem slice_from {value lo : Expr} {p : Pos} {l : Addr} {vs : List Value} {ns : List Int} {k : Nat} {u : Tok} {Q : Value → Shared → Prop}
    (F : Fr h₀ L s.heap m) (N : News h₀ L s.heap news) (hl : s.heap.IsList l vs.toArray) (hi : IntsAre vs ns) (hk : k ≤ ns.length) (hsz : ns.length ≤ sizeLine)
    (h : ∀ D ws h', Fr h₀ L h' m → News h₀ L h' ((D, listOf (List.toArray ws) 0) :: news) → (∀ p ∈ news, p.1 < D) → IntsAre ws (ns.drop k) → Q (.ref D) { s with heap := h' })
    (ht : ∀ r, letTemporaryGo value (.ref l) r = pure () := by intro _; with_unfolding_all rfl) :
    wpAny (model prog w) A (subscriptTail value (.Slice (some lo) none none p) (.ref l) (.ref s.heap.objs.size)) Q E { s with heap := s.heap.push { cls := .type "slice", data := .fields #[.int k u, .none, .none] } } := by
  refine slice_list F N hl (IsPart.int _ _) IsPart.none (fun h' F' N' => ?_) (by with_unfolding_all rfl) ht (by rw [List.size_toArray, hi.length]; exact hsz)
  refine h (s.heap.objs.size + 1) (slicePick vs.toArray (some (k : Int)) none none).toList h' F' ?_ (fun p hp => Nat.lt_succ_of_lt (Heap.lt_size (N p hp).1)) ?_
  · rw [Array.toArray_toList]; exact N'
  · have := slice_ints_from hi (x := (k : Int)) (Int.natCast_nonneg _) (by exact_mod_cast hk)
    simpa using this
theorem Fr.grow {h₀ h h' : Heap} {L : Addr} {m : Str → Option Value} (F : Fr h₀ L h m) (k : ∀ b o, h.get? b = some o → h'.get? b = some o) : Fr h₀ L h' m := by
  obtain ⟨oL, es, ep, hL, r⟩ := F.ns
  exact ⟨⟨oL, es, ep, k _ _ hL, r⟩, fun b o e => k _ _ (F.keep b o e), F.above⟩
theorem News.grow {h₀ h h' : Heap} {L : Addr} {news : List (Addr × Obj)} (N : News h₀ L h news) (k : ∀ b o, h.get? b = some o → h'.get? b = some o) : News h₀ L h' news := fun p hp => ⟨k _ _ (N p hp).1, (N p hp).2⟩
theorem tupleOf_K {l : Addr} {items : Array Value} {Q : Value → Shared → Prop} (F : Fr h₀ L s.heap m) (N : News h₀ L s.heap news) (hl : s.heap.IsList l items) (hsz : items.size ≤ sizeLine)
    (h : ∀ T h', Fr h₀ L h' m → News h₀ L h' ((T, { cls := .type "tuple", data := .seq items }) :: news) → (∀ p ∈ news, p.1 < T) → Q (.ref T) { s with heap := h' }) :
    wpAny (model prog w) A (call (.type "tuple") [.ref l]) Q E s := by
  refine call_tuple_list hl (fun h' k => ?_) hsz
  have F' := Mine.Fr.grow F k
  have N' := Mine.News.grow N k
  exact h _ _ (F'.push _) (N'.push F' _) fun p hp => Heap.lt_size (N' p hp).1
end
end Mine
end PartRules

section PartS0
theorem Mine.anewS0 : True := by
  w_top off
  trivial
open PySem PySem.W PySem.Calls PyProof.Rows
set_option Elab.async false
set_option maxRecDepth 100000
set_option maxHeartbeats 4000000
namespace Mine
theorem fillS0 : hd.heap_1 = hd.heap_1 ∧ PySem.Challenge.rw_mg0051_01 = PySem.Challenge.rw_mg0051_01 := by
  k_fill
  exact ⟨rfl, rfl⟩

theorem sldP_len : ∀ (xs ys : List Int), (sldP xs ys).1.length ≤ xs.length ∧ (sldP xs ys).2.length ≤ ys.length := by
  intro xs ys
  induction xs, ys using sldP.induct with
  | case1 ys => simp [sldP]
  | case2 x xs => simp [sldP]
  | case3 x xs y ys h ih =>
    have h1 := (List.dropWhile_suffix (fun z => z == x) (l := xs)).length_le
    rw [sldP]; simp only [h, if_true, List.length_cons] at ih ⊢; omega
  | case4 x xs y ys h h' ih =>
    have h1 := (List.dropWhile_suffix (fun z => z == y) (l := ys)).length_le
    rw [sldP]; simp only [h, h', if_true, if_false, List.length_cons] at ih ⊢; omega
  | case5 x xs y ys h h' ih =>
    have h1 := (List.dropWhile_suffix (fun z => z == x) (l := xs)).length_le
    have h2 := (List.dropWhile_suffix (fun z => z == y) (l := ys)).length_le
    rw [sldP]; simp only [h, h', if_false, List.length_cons] at ih ⊢; omega

theorem sldP_nil (ys : List Int) : sldP [] ys = ([], ys) := by rw [sldP]
theorem sldP_nil2 (xs : List Int) : sldP xs [] = (xs, []) := by cases xs <;> rw [sldP]
theorem sldP_lt {x y : Int} (X Y : List Int) (h : x < y) : sldP (x :: X) (y :: Y) = (x :: (sldP (X.dropWhile (· == x)) (y :: Y)).1, (sldP (X.dropWhile (· == x)) (y :: Y)).2) := by rw [sldP, if_pos h]
theorem sldP_gt {x y : Int} (X Y : List Int) (h : y < x) : sldP (x :: X) (y :: Y) = ((sldP (x :: X) (Y.dropWhile (· == y))).1, y :: (sldP (x :: X) (Y.dropWhile (· == y))).2) := by rw [sldP, if_neg (by omega), if_pos h]
theorem sldP_eq {x : Int} (X Y : List Int) : sldP (x :: X) (x :: Y) = sldP (X.dropWhile (· == x)) (Y.dropWhile (· == x)) := by rw [sldP, if_neg (by omega), if_neg (by omega)]

theorem allLt_mem {d : Nat} {l : List (Addr × Obj)} (x : AllLt d l) : ∀ p ∈ l, p.1 < d := by
  induction l with
  | nil => intro p hp; cases hp
  | cons q r ih =>
    intro p hp
    rcases List.mem_cons.mp hp with rfl | hp
    · exact x.1
    · exact ih x.2 p hp

structure SM (ax ay am au : Addr) (i j : Nat) (m : Str → Option Value) : Prop where
  x : m (Str.ofString "expected") = some (.ref ax)
  y : m (Str.ofString "actual") = some (.ref ay)
  i : ∃ t, m (Str.ofString "i") = some (.int i t)
  j : ∃ t, m (Str.ofString "j") = some (.int j t)
  ms : m (Str.ofString "missing") = some (.ref am)
  us : m (Str.ofString "unexpected") = some (.ref au)

section
variable (g : Heap) (L : Addr) (outer : List Env) (frs : List (Addr × Obj)) (s : Shared) (ax ay am au : Addr) (xs ys : List Int)
noncomputable abbrev sldL (am au : Addr) (mi ui : List Value) (em eu : Nat) : List (Addr × Obj) := [(au, listOf (List.toArray ui) eu), (am, listOf (List.toArray mi) em)]
inductive SldI (n : Nat) (s' : Shared) : Prop
  | mk (i j : Nat) (M U : List Int) (mi ui : List Value) (em eu : Nat) (m : Str → Option Value) (e : n = (xs.length - i) + (ys.length - j)) (hi : i ≤ xs.length) (hj : j ≤ ys.length)
    (hp : (M ++ (sldP (xs.drop i) (ys.drop j)).1, U ++ (sldP (xs.drop i) (ys.drop j)).2) = sldP xs ys) (hM : IntsAre mi M) (hU : IntsAre ui U) (sm : SM ax ay am au i j m)
    (y : Stt g L outer frs s m (sldL am au mi ui em eu) s') : SldI n s'
inductive SldE (v : Value) (s' : Shared) : Prop
  | mk (e : Addr) (n0 : Nat) (ctx : Value) (i j : Nat) (M U : List Int) (mi ui : List Value) (em eu : Nat) (m : Str → Option Value) (hv : v = .ref e) (hi : i ≤ xs.length) (hj : j ≤ ys.length)
    (hp : (M ++ xs.drop i, U ++ ys.drop j) = sldP xs ys) (hM : IntsAre mi M) (hU : IntsAre ui U) (sm : SM ax ay am au i j m)
    (y : Stt g L outer frs s m (sldL am au mi ui em eu) s') (ab : Above n0 L (sldL am au mi ui em eu) frs) (al : Aloft n0 L s'.heap e "IndexError" ctx) : SldE v s'
end

end Mine
end PartS0

section PartS1
theorem Mine.anewS1 : True := by
  w_top off
  trivial
open PySem PySem.W PySem.Calls PyProof.Rows
set_option Elab.async false
set_option maxRecDepth 100000
set_option maxHeartbeats 4000000
namespace Mine
theorem fillS : hd.heap_1 = hd.heap_1 ∧ PySem.Challenge.rw_mg0051_01 = PySem.Challenge.rw_mg0051_01 := by
  k_fill
  exact ⟨rfl, rfl⟩

local macro_rules | `(tactic| walk_at "call builtin:list.extend") => `(tactic| refine stopAt ?_)
local macro_rules | `(tactic| walk_at "subscriptTail Name Slice ref ref") => `(tactic| refine stopAt ?_)
theorem sld_spec (w : World) (xs ys : List Int) (ax ay : Addr) (hx : xs.length ≤ 1000) (hy : ys.length ≤ 1000) :
    Spec w 302 7 28 [.ref ax, .ref ay] [] (fun g => ListAt g ax xs ∧ ListAt g ay ys)
      (fun v pst => ∃ t am au mi ui em eu, v = .ref t ∧ t ≠ am ∧ t ≠ au ∧ am ≠ au ∧ pst = [(t, { cls := .type "tuple", data := .seq #[.ref am, .ref au] }), (au, listOf (List.toArray ui) eu), (am, listOf (List.toArray mi) em)] ∧
        IntsAre mi (sldP xs ys).1 ∧ IntsAre ui (sldP xs ys).2) := by
  intro g outer frs s R G hfz ok st hsz N off hR
  obtain ⟨mean, mg, mb, T⟩ := G.T
  have X := G.X
  obtain ⟨hlx, hly⟩ := hfz
  refine enter X T.nolimit st hsz N (by k_is) (by k_is) (show 302 < recursionLimit by decide) (BindsTo.of_eq rfl) (locs rfl) ?_ rfl rfl rfl (by decide)
  intro L h₁ hL F N' hlt
  try dsimp only
  simp only [List.nil_append] at N'
  refine exec_then fun Q1 hQ1 => ?_
  k_steps
  refine hQ1 _ _ ?_
  refine exec_then fun Q2 hQ2 => ?_
  k_steps
  refine hQ2 _ _ ?_
  refine exec_then fun Q3 hQ3 => ?_
  k_steps
  refine hQ3 _ _ ?_
  dsimp only
  clear hQ1 hQ2 hQ3
  rename_i am _ la _ au _ lb h2 F2 N2
  clear Q1 Q2 Q3
  have hamu : am < au := lb.1
  have off2 : OwnOff frs [au, am] := fun p hp b hb => by
    rcases List.mem_cons.mp hb with rfl | hb
    · exact Nat.ne_of_lt (allLt_mem lb.2 p hp)
    · rw [List.mem_singleton.mp hb]; exact Nat.ne_of_lt (la p hp)
  refine exec_then fun Q4 hQ4 => ?_
  refine wpAny_While (codeAny_whileLoop (SldI g L outer frs s ax ay am au xs ys) ?turn (xs.length + ys.length) ?init)
  case init =>
    refine ⟨0, 0, [], [], [], [], 0, 0, _, rfl, Nat.zero_le _, Nat.zero_le _, by simp, .nil, .nil, ?_, ⟨_, _, frs, rfl, SlotsOf.refl _, ok, F2, N2, off2⟩⟩
    exact ⟨rfl, rfl, ⟨_, rfl⟩, ⟨_, rfl⟩, rfl, rfl⟩
  clear F2 N2
  rintro n s' ⟨i, j, M, U, mi, ui, em, eu, m, rfl, hi, hj, hinv, hM, hU, sm, y⟩
  walk1
  walk1
  walk1
  refine wpAny_execs_cons (wpAny_Try_except ?_)
  refine wpAny_mono (Q := fun f s₂ => f = .next ∧ ∃ k, k < (xs.length - i) + (ys.length - j) ∧ SldI g L outer frs s ax ay am au xs ys k s₂) (E := SldE g L outer frs s ax ay am au xs ys) ?body ?q ?e
  case q =>
    rintro f s₂ ⟨rfl, hk⟩
    exact wpAny_execs_nil (wpAny_execs_nil hk)
  case e =>
    rintro v s₂ ⟨e, n0, ctx, i', j', M', U', mi', ui', em', eu', m', rfl, hi', hj', hpair, hM', hU', sm', y', ab, al⟩
    have hlen := sldP_len xs ys
    rw [← hpair] at hlen
    simp only [List.length_append] at hlen
    refine y'.caught ab rfl al (topRead_of T) (T.free (Str.ofString "IndexError") (by decide +kernel) (by decide +kernel) (by decide +kernel) (by decide +kernel) (by decide +kernel)) PyProof.Rows.Boot.«IndexError» (by decide +kernel) PySem.F.isExc_IndexError PySem.F.notTuple_IndexError (by rw [isSubtype_type]; kernel_rfl) rfl rfl (by decide) ?_
    intro s₃ y₃ _
    obtain ⟨h₃, tk₃, frs₃, rfl, sl₃, ok₃, F₃, N₃, off₃⟩ := y₃
    obtain ⟨ti, hmi⟩ := sm'.i
    obtain ⟨tj, hmj⟩ := sm'.j
    rw [frame_as (m := m') [(Str.ofString "expected", .ref ax), (Str.ofString "actual", .ref ay), (Str.ofString "i", .int i' ti), (Str.ofString "j", .int j' tj), (Str.ofString "missing", .ref am), (Str.ofString "unexpected", .ref au)]
      (by simp only [List.forall_mem_cons]; exact ⟨sm'.x, sm'.y, hmi, hmj, sm'.ms, sm'.us, fun _ h => by cases h⟩)] at F₃
    simp only [List.cons_append, List.nil_append, List.map_cons, List.map_nil] at N₃ off₃
    obtain ⟨vx, hvx, hix⟩ := hlx
    obtain ⟨vy, hvy, hiy⟩ := hly
    have hszl : (2000 : Nat) ≤ sizeLine := by rw [sizeLine_eq]; decide
    refine exec_then fun Q5 hQ5 => ?_
    k_steps
    refine slice_from (s := ⟨h₃, s.gens, s.drawn, tk₃, s.os⟩) F₃ N₃ (hvx.at fun o q => F₃.keep _ o q) hix hi' (by omega) fun D ws h F N l1 hI => ?_
    clear F₃ N₃
    k_lt l1
    k_steps
    refine ext_K F N (N _ (.head _)).1 (by k_upd) (by have := hI.length; have := hM'.length; simp only [List.size_toArray]; omega) fun h' F' N' => ?_
    clear F N
    refine hQ5 _ _ ?_
    clear hQ5 Q5
    refine exec_then fun Q5 hQ5 => ?_
    k_steps
    refine slice_from (s := ⟨_, s.gens, s.drawn, _, s.os⟩) F' N' (hvy.at fun o q => F'.keep _ o q) hiy hj' (by omega) fun D2 ws2 h2 F2 N2 l2 hI2 => ?_
    clear F' N'
    k_lt l2
    k_steps
    refine ext_K F2 N2 (N2 _ (.head _)).1 (by k_upd) (by have := hI2.length; have := hU'.length; simp only [List.size_toArray]; omega) fun h' F' N' => ?_
    clear F2 N2
    refine hQ5 _ _ ?_
    clear hQ5 Q5
    refine exec_then fun Q5 hQ5 => ?_
    k_steps
    refine hQ5 _ _ ?_
    refine hQ4 _ _ ?_
    dsimp only
    clear hQ5 hQ4
    k_steps
    rename_i D3 h3 F3 N3 l3
    rw [List.append_toArray, List.append_toArray] at N3
    refine hR _ _ _ frs₃ [(D3, { cls := .type "tuple", data := .seq #[.ref am, .ref au] }), (au, listOf (List.toArray (ui' ++ ws2)) (extE ui'.toArray ws2.toArray eu')), (am, listOf (List.toArray (mi' ++ ws)) (extE mi'.toArray ws.toArray em'))] ⟨D3, am, au, mi' ++ ws, ui' ++ ws2, _, _, rfl, Nat.ne_of_gt l3.2.2.2.1, Nat.ne_of_gt l3.2.2.1, Nat.ne_of_lt hamu, rfl, ?_, ?_⟩ sl₃ F3.keep (fun p hp => ?_) (fun p hp b hb => ?_)
    · rw [← hpair]; exact hM'.append hI
    · rw [← hpair]; exact hU'.append hI2
    · refine (fun P => ⟨(N3 p P).1, (N3 p P).2.2⟩) ?_
      · simp only [List.cons_append, List.nil_append, List.mem_cons] at hp ⊢
        rcases hp with hp | hp | hp | hp
        · exact .inl hp
        · exact .inr (.inr (.inr (.inl hp)))
        · exact .inr (.inr (.inr (.inr (.inl hp))))
        · exact .inr (.inr (.inr (.inr (.inr hp))))
    · simp only [List.map_cons, List.map_nil, List.mem_cons, List.not_mem_nil, or_false] at hb
      rcases hb with rfl | rfl | rfl
      · exact Nat.ne_of_lt (allLt_mem l3.2.2.2.2 p hp)
      · exact off₃ p hp _ (.head _)
      · exact off₃ p hp _ (.tail _ (.head _))
  case body =>
    refine wp_veil fun QW EW hQW hEW => ?_
    obtain ⟨ti, hmi⟩ := sm.i
    obtain ⟨tj, hmj⟩ := sm.j
    obtain ⟨vx, hvx, hix⟩ := id hlx
    obtain ⟨vy, hvy, hiy⟩ := id hly
    have hlenx : vx.length = xs.length := hix.length
    have hleny : vy.length = ys.length := hiy.length
    have big : (1000 : Int) < 2 ^ 63 := by decide
    have hlen := sldP_len xs ys
    rw [← hinv] at hlen
    simp only [List.length_append] at hlen
    refine wpAny_execs_cons (wpAny_Assign_Name (Subscript_ (y.ld sm.x (y.ld hmi ?_ rfl rfl (by decide)) rfl rfl (by decide))))
    by_cases hlt : i < xs.length
    case neg =>
      have hie : i = xs.length := by omega
      refine item_out (.inl rfl) (hvx.at fun o q => y.fr.keep _ o q) (Int.natCast_nonneg _) (by simp [hlenx]; omega) (by omega) fun h' tk e ctx _ k1 k2 k3 => ?_
      refine hEW _ _ ⟨e, s'.heap.objs.size, ctx, i, j, M, U, mi, ui, em, eu, m, rfl, hi, hj, ?_, hM, hU, sm, y.grow k1, y.above, .inl k3⟩
      rw [← hinv, hie]; simp [sldP_nil]
    obtain ⟨tx, hxv⟩ := hix.get i xs[i] (by simp [hlt])
    refine item_in (hvx.at fun o q => y.fr.keep _ o q) (Int.natCast_nonneg _) (by omega) (v := .int xs[i] tx) (by simpa using hxv) ?_
    refine y.st (fun s₁ y₁ => ?_) rfl rfl
    have sm₁ : SM ax ay am au i j (fun z => if z = Str.ofString "e" then some (Value.int xs[i] tx) else m z) := ⟨(if_neg (by decide)).trans sm.x, (if_neg (by decide)).trans sm.y, ⟨ti, (if_neg (by decide)).trans hmi⟩, ⟨tj, (if_neg (by decide)).trans hmj⟩, (if_neg (by decide)).trans sm.ms, (if_neg (by decide)).trans sm.us⟩
    have me₁ : (fun z => if z = Str.ofString "e" then some (Value.int xs[i] tx) else m z) (Str.ofString "e") = some (.int xs[i] tx) := if_pos rfl
    revert y₁ sm₁ me₁
    generalize (fun z => if z = Str.ofString "e" then some (Value.int xs[i] tx) else m z) = m₁
    intro y₁ sm₁ me₁
    clear y sm hmi hmj
    clear m ti tj
    obtain ⟨ti, hmi⟩ := sm₁.i
    obtain ⟨tj, hmj⟩ := sm₁.j
    refine wpAny_execs_cons (wpAny_Assign_Name (Subscript_ (y₁.ld sm₁.y (y₁.ld hmj ?_ rfl rfl (by decide)) rfl rfl (by decide))))
    by_cases hltj : j < ys.length
    case neg =>
      have hje : j = ys.length := by omega
      refine item_out (.inl rfl) (hvy.at fun o q => y₁.fr.keep _ o q) (Int.natCast_nonneg _) (by simp [hleny]; omega) (by omega) fun h' tk e ctx _ k1 k2 k3 => ?_
      refine hEW _ _ ⟨e, s₁.heap.objs.size, ctx, i, j, M, U, mi, ui, em, eu, m₁, rfl, hi, hj, ?_, hM, hU, sm₁, y₁.grow k1, y₁.above, .inl k3⟩
      rw [← hinv, hje]; simp [sldP_nil2]
    obtain ⟨ty, hyv⟩ := hiy.get j ys[j] (by simp [hltj])
    refine item_in (hvy.at fun o q => y₁.fr.keep _ o q) (Int.natCast_nonneg _) (by omega) (v := .int ys[j] ty) (by simpa using hyv) ?_
    refine y₁.st (fun s₂ y₂ => ?_) rfl rfl
    have sm₂ : SM ax ay am au i j (fun z => if z = Str.ofString "a" then some (Value.int ys[j] ty) else m₁ z) := ⟨(if_neg (by decide)).trans sm₁.x, (if_neg (by decide)).trans sm₁.y, ⟨ti, (if_neg (by decide)).trans hmi⟩, ⟨tj, (if_neg (by decide)).trans hmj⟩, (if_neg (by decide)).trans sm₁.ms, (if_neg (by decide)).trans sm₁.us⟩
    have me₂ : (fun z => if z = Str.ofString "a" then some (Value.int ys[j] ty) else m₁ z) (Str.ofString "e") = some (.int xs[i] tx) := (if_neg (by decide)).trans me₁
    have ma₂ : (fun z => if z = Str.ofString "a" then some (Value.int ys[j] ty) else m₁ z) (Str.ofString "a") = some (.int ys[j] ty) := if_pos rfl
    revert y₂ sm₂ me₂ ma₂
    generalize (fun z => if z = Str.ofString "a" then some (Value.int ys[j] ty) else m₁ z) = m₂
    intro y₂ sm₂ me₂ ma₂
    clear y₁ sm₁ hmi hmj me₁
    clear m₁ ti tj
    obtain ⟨ti, hmi⟩ := sm₂.i
    obtain ⟨tj, hmj⟩ := sm₂.j
    have hdx : xs.drop i = xs[i] :: xs.drop (i + 1) := List.drop_eq_getElem_cons hlt
    have hdy : ys.drop j = ys[j] :: ys.drop (j + 1) := List.drop_eq_getElem_cons hltj
    rw [hdx, hdy] at hinv hlen
    refine wpAny_execs_cons (wpAny_If (wpAny_isTrue_Compare1 (y₂.ld me₂ (y₂.ld ma₂ (lt_int (wpAny_truthy_bool ?_)) rfl rfl (by decide)) rfl rfl (by decide))))
    have hszl : (2000 : Nat) ≤ sizeLine := by rw [sizeLine_eq]; decide
    by_cases hxy : xs[i] < ys[j]
    · rw [if_pos (by simp [hxy])]
      rw [sldP_lt _ _ hxy] at hinv hlen
      obtain ⟨h₃, tk₃, frs₃, rfl, sl₃, ok₃, F₃, N₃, off₃⟩ := y₂
      rw [frame_as (m := m₂) [(Str.ofString "expected", .ref ax), (Str.ofString "actual", .ref ay), (Str.ofString "i", .int i ti), (Str.ofString "j", .int j tj), (Str.ofString "missing", .ref am), (Str.ofString "unexpected", .ref au), (Str.ofString "e", .int xs[i] tx), (Str.ofString "a", .int ys[j] ty)]
        (by simp only [List.forall_mem_cons]; exact ⟨sm₂.x, sm₂.y, hmi, hmj, sm₂.ms, sm₂.us, me₂, ma₂, fun _ h => by cases h⟩)] at F₃
      simp only [List.cons_append, List.nil_append, List.map_cons, List.map_nil] at N₃ off₃
      have hmsz : mi.toArray.size ≤ sizeLine := by have := hM.length; simp only [List.size_toArray]; omega
      refine exec_then fun Q5 hQ5 => ?_
      k_steps
      refine hQ5 _ _ ?_
      clear hQ5 Q5
      refine exec_then fun Q5 hQ5 => ?_
      k_steps
      refine hQ5 _ _ ?_
      clear hQ5 Q5
      rename_i h5 F5 N5
      simp only [List.push_toArray] at N5
      have y₅ := fun tk => (⟨h5, tk, frs₃, rfl, sl₃, ok₃, F5, N5, off₃⟩ : Stt g L outer frs s _ (sldL am au (mi ++ [Value.int xs[i] tx]) ui (em + 1) eu) ⟨h5, s.gens, s.drawn, tk, s.os⟩)
      clear F5 N5
      refine wpAny_execs_cons (skip_loop rfl rfl rfl rfl (by decide) (by decide) (by decide) (by decide) (by decide) rfl (fun _ _ => .inl rfl) hlx (by omega) (y₅ _) (ax := ax) (i := i + 1) (ev := xs[i]) rfl rfl rfl (by omega) ?_ ?_)
      · intro i' ti' m' s₆ h1 h2 h3 h4 h5 y₆
        refine wpAny_execs_nil (wpAny_execs_nil (hQW _ _ ⟨rfl, xs.length - i' + (ys.length - j), by omega, i', j, M ++ [xs[i]], U, _, _, _, _, m', rfl, by omega, hj, ?_, hM.append (.cons _ _ .nil), hU, ?_, y₆⟩))
        · rw [h3, hdy, ← hinv]; simp
        · exact ⟨(h5 _ (by decide)).trans rfl, (h5 _ (by decide)).trans rfl, ⟨ti', h4⟩, ⟨tj, (h5 _ (by decide)).trans rfl⟩, (h5 _ (by decide)).trans rfl, (h5 _ (by decide)).trans rfl⟩
      · intro e n0 ctx ti' m' s₆ _ h3 h4 h5 y₆ ab ex
        refine hEW _ _ ⟨e, n0, ctx, xs.length, j, M ++ [xs[i]], U, _, _, _, _, m', rfl, Nat.le_refl _, hj, ?_, hM.append (.cons _ _ .nil), hU, ?_, y₆, ab, .inr ex⟩
        · rw [h3, sldP_nil, ← hdy] at hinv; rw [← hinv]; simp
        · exact ⟨(h5 _ (by decide)).trans rfl, (h5 _ (by decide)).trans rfl, ⟨ti', h4⟩, ⟨tj, (h5 _ (by decide)).trans rfl⟩, (h5 _ (by decide)).trans rfl, (h5 _ (by decide)).trans rfl⟩
    rw [if_neg (by simp [hxy])]
    refine wpAny_execs_cons (wpAny_If (wpAny_isTrue_Compare1 (y₂.ld me₂ (y₂.ld ma₂ (gt_int (wpAny_truthy_bool ?_)) rfl rfl (by decide)) rfl rfl (by decide))))
    by_cases hyx : ys[j] < xs[i]
    · rw [if_pos (by simp [hyx])]
      rw [sldP_gt _ _ hyx] at hinv hlen
      obtain ⟨h₃, tk₃, frs₃, rfl, sl₃, ok₃, F₃, N₃, off₃⟩ := y₂
      rw [frame_as (m := m₂) [(Str.ofString "expected", .ref ax), (Str.ofString "actual", .ref ay), (Str.ofString "i", .int i ti), (Str.ofString "j", .int j tj), (Str.ofString "missing", .ref am), (Str.ofString "unexpected", .ref au), (Str.ofString "e", .int xs[i] tx), (Str.ofString "a", .int ys[j] ty)]
        (by simp only [List.forall_mem_cons]; exact ⟨sm₂.x, sm₂.y, hmi, hmj, sm₂.ms, sm₂.us, me₂, ma₂, fun _ h => by cases h⟩)] at F₃
      simp only [List.cons_append, List.nil_append, List.map_cons, List.map_nil] at N₃ off₃
      have husz : ui.toArray.size ≤ sizeLine := by have := hU.length; simp only [List.size_toArray]; omega
      refine exec_then fun Q5 hQ5 => ?_
      k_steps
      refine hQ5 _ _ ?_
      clear hQ5 Q5
      refine exec_then fun Q5 hQ5 => ?_
      k_steps
      refine hQ5 _ _ ?_
      clear hQ5 Q5
      rename_i h5 F5 N5
      simp only [List.push_toArray] at N5
      have y₅ := fun tk => (⟨h5, tk, frs₃, rfl, sl₃, ok₃, F5, N5, off₃⟩ : Stt g L outer frs s _ (sldL am au mi (ui ++ [Value.int ys[j] ty]) em (eu + 1)) ⟨h5, s.gens, s.drawn, tk, s.os⟩)
      clear F5 N5
      refine wpAny_execs_cons (skip_loop rfl rfl rfl rfl (by decide) (by decide) (by decide) (by decide) (by decide) rfl (fun _ _ => .inl rfl) hly (by omega) (y₅ _) (ax := ay) (i := j + 1) (ev := ys[j]) rfl rfl rfl (by omega) ?_ ?_)
      · intro j' tj' m' s₆ h1 h2 h3 h4 h5 y₆
        refine wpAny_execs_nil (wpAny_execs_nil (wpAny_execs_nil (hQW _ _ ⟨rfl, xs.length - i + (ys.length - j'), by omega, i, j', M, U ++ [ys[j]], _, _, _, _, m', rfl, hi, by omega, ?_, hM, hU.append (.cons _ _ .nil), ?_, y₆⟩)))
        · rw [h3, hdx, ← hinv]; simp
        · exact ⟨(h5 _ (by decide)).trans rfl, (h5 _ (by decide)).trans rfl, ⟨ti, (h5 _ (by decide)).trans rfl⟩, ⟨tj', h4⟩, (h5 _ (by decide)).trans rfl, (h5 _ (by decide)).trans rfl⟩
      · intro e n0 ctx tj' m' s₆ _ h3 h4 h5 y₆ ab ex
        refine hEW _ _ ⟨e, n0, ctx, i, ys.length, M, U ++ [ys[j]], _, _, _, _, m', rfl, hi, Nat.le_refl _, ?_, hM, hU.append (.cons _ _ .nil), ?_, y₆, ab, .inr ex⟩
        · rw [h3, sldP_nil2, ← hdx] at hinv; rw [← hinv]; simp
        · exact ⟨(h5 _ (by decide)).trans rfl, (h5 _ (by decide)).trans rfl, ⟨ti, (h5 _ (by decide)).trans rfl⟩, ⟨tj', h4⟩, (h5 _ (by decide)).trans rfl, (h5 _ (by decide)).trans rfl⟩
    · rw [if_neg (by simp [hyx])]
      have hxe : ys[j] = xs[i] := by omega
      rw [hxe, sldP_eq] at hinv hlen
      obtain ⟨h₃, tk₃, frs₃, rfl, sl₃, ok₃, F₃, N₃, off₃⟩ := y₂
      rw [frame_as (m := m₂) [(Str.ofString "expected", .ref ax), (Str.ofString "actual", .ref ay), (Str.ofString "i", .int i ti), (Str.ofString "j", .int j tj), (Str.ofString "missing", .ref am), (Str.ofString "unexpected", .ref au), (Str.ofString "e", .int xs[i] tx), (Str.ofString "a", .int ys[j] ty)]
        (by simp only [List.forall_mem_cons]; exact ⟨sm₂.x, sm₂.y, hmi, hmj, sm₂.ms, sm₂.us, me₂, ma₂, fun _ h => by cases h⟩)] at F₃
      simp only [List.cons_append, List.nil_append, List.map_cons, List.map_nil] at N₃ off₃
      refine exec_then fun Q5 hQ5 => ?_
      k_steps
      refine hQ5 _ _ ?_
      clear hQ5 Q5
      rename_i h5 F5 N5
      have y₅ := fun tk => (⟨h5, tk, frs₃, rfl, sl₃, ok₃, F5, N5, off₃⟩ : Stt g L outer frs s _ (sldL am au mi ui em eu) ⟨h5, s.gens, s.drawn, tk, s.os⟩)
      clear F5 N5
      refine wpAny_execs_cons (wpAny_Try_finally ?_)
      refine wpAny_execs_cons (skip_loop rfl rfl rfl rfl (by decide) (by decide) (by decide) (by decide) (by decide) rfl (fun _ _ => .inl rfl) hlx (by omega) (y₅ _) (ax := ax) (i := i + 1) (ev := xs[i]) rfl rfl rfl (by omega) ?n ?r)
      case n =>
        intro i' ti' m' s₆ h1 h2 h3 h4 h5 y₆
        have hmx : m' (Str.ofString "expected") = some (.ref ax) := (h5 _ (by decide)).trans rfl
        have hmy : m' (Str.ofString "actual") = some (.ref ay) := (h5 _ (by decide)).trans rfl
        have hmj' : m' (Str.ofString "j") = some (.int j tj) := (h5 _ (by decide)).trans rfl
        have hma' : m' (Str.ofString "a") = some (.int ys[j] ty) := (h5 _ (by decide)).trans rfl
        have hmm' : m' (Str.ofString "missing") = some (.ref am) := (h5 _ (by decide)).trans rfl
        have hmu' : m' (Str.ofString "unexpected") = some (.ref au) := (h5 _ (by decide)).trans rfl
        clear h5
        refine wpAny_execs_nil (wpAny_execs_nil ?_)
        refine wpAny_execs_cons (wpAny_AugAssign_Name (y₆.ldn hmj' (wpAny_Constant_int (iadd_int ((y₆.tok (tk := _)).st (fun s₇ y₇ => ?_) rfl rfl))) rfl rfl))
        refine wpAny_execs_cons (skip_loop rfl rfl rfl rfl (by decide) (by decide) (by decide) (by decide) (by decide) rfl (fun _ _ => .inl rfl) hly (by omega) y₇ (ax := ay) (i := j + 1) (ev := ys[j]) ((if_neg (by decide)).trans hmy) (if_pos rfl) ((if_neg (by decide)).trans hma') (by omega) ?_ ?_)
        · intro j' tj' m8 s₈ g1 g2 g3 g4 g5 y₈
          refine wpAny_execs_nil (wpAny_execs_nil (wpAny_execs_nil (wpAny_execs_nil (hQW _ _ ⟨rfl, xs.length - i' + (ys.length - j'), by omega, i', j', M, U, _, _, _, _, m8, rfl, by omega, by omega, ?_, hM, hU, ?_, y₈⟩))))
          · rw [h3, g3, hxe, hinv]
          · exact ⟨(g5 _ (by decide)).trans ((if_neg (by decide)).trans hmx), (g5 _ (by decide)).trans ((if_neg (by decide)).trans hmy), ⟨ti', (g5 _ (by decide)).trans ((if_neg (by decide)).trans h4)⟩, ⟨tj', g4⟩, (g5 _ (by decide)).trans ((if_neg (by decide)).trans hmm'), (g5 _ (by decide)).trans ((if_neg (by decide)).trans hmu')⟩
        · intro e n0 ctx tj' m8 s₈ _ g3 g4 g5 y₈ ab ex
          refine y₈.note ab rfl rfl rfl (.inr ex) fun s₉ y₉ e₉ => y₉.came ab rfl e₉ fun s₁₀ y₁₀ e₁₀ => ?_
          refine hEW _ _ ⟨e, n0, ctx, i', ys.length, M, U, _, _, _, _, m8, rfl, by omega, Nat.le_refl _, ?_, hM, hU, ?_, y₁₀, ab, .inr e₁₀⟩
          · rw [← hinv, h3, ← hxe, g3, sldP_nil2]; simp
          · exact ⟨(g5 _ (by decide)).trans ((if_neg (by decide)).trans hmx), (g5 _ (by decide)).trans ((if_neg (by decide)).trans hmy), ⟨ti', (g5 _ (by decide)).trans ((if_neg (by decide)).trans h4)⟩, ⟨tj', g4⟩, (g5 _ (by decide)).trans ((if_neg (by decide)).trans hmm'), (g5 _ (by decide)).trans ((if_neg (by decide)).trans hmu')⟩
      case r =>
        intro e n0 ctx ti' m' s₆ hctx h3 h4 h5 y₆ ab ex
        have hmx : m' (Str.ofString "expected") = some (.ref ax) := (h5 _ (by decide)).trans rfl
        have hmy : m' (Str.ofString "actual") = some (.ref ay) := (h5 _ (by decide)).trans rfl
        have hmj' : m' (Str.ofString "j") = some (.int j tj) := (h5 _ (by decide)).trans rfl
        have hma' : m' (Str.ofString "a") = some (.int ys[j] ty) := (h5 _ (by decide)).trans rfl
        have hmm' : m' (Str.ofString "missing") = some (.ref am) := (h5 _ (by decide)).trans rfl
        have hmu' : m' (Str.ofString "unexpected") = some (.ref au) := (h5 _ (by decide)).trans rfl
        clear h5
        have hcx : ctx = .none := hctx rfl
        subst hcx
        refine y₆.note ab rfl rfl rfl (.inr ex) fun s₇ y₇ e₇ => ⟨ref_ne_byPass _, ?_⟩
        refine y₇.note ab rfl rfl rfl (.inr e₇) fun s₈ y₈ e₈ => ?_
        refine y₈.flight ab e₈ fun s₉ y₉ e₉ => ?_
        obtain ⟨oe, T1, oT, y₁₀, hx1, vs1, hd1, hc1⟩ := y₉.withExc ab e₉
        clear y₆ ex y₇ e₇ y₈ e₈ y₉ e₉
        refine wpAny_execs_cons (wpAny_AugAssign_Name (y₁₀.ldn hmj' (wpAny_Constant_int (iadd_int ((y₁₀.tok (tk := _)).st (fun s₇ y₇ => ?_) rfl rfl))) rfl rfl))
        refine wpAny_execs_cons (skip_loop rfl rfl rfl rfl (by decide) (by decide) (by decide) (by decide) (by decide) rfl (fun h N => .inr ⟨e, oe, vs1, rfl, (N (e, oe) (List.mem_append_right _ (.head _))).1, hd1, hc1⟩) hly (by omega) y₇ (ax := ay) (i := j + 1) (ev := ys[j]) ((if_neg (by decide)).trans hmy) (if_pos rfl) ((if_neg (by decide)).trans hma') (by omega) ?_ ?_)
        · intro j' tj' m8 s₈ g1 g2 g3 g4 g5 y₈
          refine wpAny_execs_nil ?_
          refine (y₈.sub fun p hp => List.mem_append_left _ hp).passOn ab rfl (hx1 _ (fun p hp => y₈.news p (List.mem_append_right _ hp))) fun s₉ y₉ e₉ => ?_
          refine hEW _ _ ⟨e, n0, _, xs.length, j', M, U, _, _, _, _, m8, rfl, Nat.le_refl _, by omega, ?_, hM, hU, ?_, y₉, ab, .inr e₉⟩
          · rw [← hinv, h3, sldP_nil, g3, hxe]; simp
          · exact ⟨(g5 _ (by decide)).trans ((if_neg (by decide)).trans hmx), (g5 _ (by decide)).trans ((if_neg (by decide)).trans hmy), ⟨ti', (g5 _ (by decide)).trans ((if_neg (by decide)).trans h4)⟩, ⟨tj', g4⟩, (g5 _ (by decide)).trans ((if_neg (by decide)).trans hmm'), (g5 _ (by decide)).trans ((if_neg (by decide)).trans hmu')⟩
        · intro e2 n2 ctx2 tj' m8 s₈ _ g3 g4 g5 y₈ ab2 ex2
          have y₉ := y₈.sub (l' := sldL am au mi ui em eu) fun p hp => List.mem_append_left _ hp
          have ab3 := ab2.sub (l' := sldL am au mi ui em eu) fun p hp => List.mem_append_left _ hp
          refine y₉.note ab3 rfl rfl rfl (.inr ex2) fun s₉ y₉ e₉ => y₉.came ab3 rfl e₉ fun s₁₀ y₁₀ e₁₀ => ?_
          refine hEW _ _ ⟨e2, n2, ctx2, xs.length, ys.length, M, U, _, _, _, _, m8, rfl, Nat.le_refl _, Nat.le_refl _, ?_, hM, hU, ?_, y₁₀, ab3, .inr e₁₀⟩
          · rw [← hinv, h3, sldP_nil, ← hxe, g3]; simp
          · exact ⟨(g5 _ (by decide)).trans ((if_neg (by decide)).trans hmx), (g5 _ (by decide)).trans ((if_neg (by decide)).trans hmy), ⟨ti', (g5 _ (by decide)).trans ((if_neg (by decide)).trans h4)⟩, ⟨tj', g4⟩, (g5 _ (by decide)).trans ((if_neg (by decide)).trans hmm'), (g5 _ (by decide)).trans ((if_neg (by decide)).trans hmu')⟩
end Mine
end PartS1

section PartSo
theorem Mine.anewSo : True := by
  w_top off
  trivial
open PySem PySem.W PySem.Calls PyProof.Rows
set_option Elab.async false
set_option maxRecDepth 100000
set_option maxHeartbeats 4000000
namespace Mine
theorem fillSo : hd.heap_1 = hd.heap_1 ∧ PySem.Challenge.rw_mg0051_01 = PySem.Challenge.rw_mg0051_01 := by
  k_fill
  exact ⟨rfl, rfl⟩

/-- where a sorter of the five names lies -/
structure SA where
  S : Addr
  dS : Addr
  D : Addr
  I : Nat → Addr
  dI : Nat → Addr
  U : Nat → Addr
/-- what it holds -/
structure SV where
  t1 : Tok
  t2 : Tok
  t3 : Tok
  t4 : Tok
  oD : Obj
  np : Nat → Value
  nd : Nat → Value
  su : Nat → List Value
  eu : Nat → Nat

noncomputable abbrev niObj (d u : Addr) (np nd : Value) : Obj := { cls := .ref 47, dict := some d, data := .plain, slots := #[some nd, some np, some (.ref u)] }
noncomputable abbrev sDict (w : World) (a : SA) (v : SV) (rd pv fv : Value) : Obj := dictOf [⟨PyData.keyHash w.params (Str.ofString "_node2info"), .str (Str.ofString "_node2info") v.t1, .ref a.D⟩, ⟨PyData.keyHash w.params (Str.ofString "_ready_nodes"), .str (Str.ofString "_ready_nodes") v.t2, rd⟩,
  ⟨PyData.keyHash w.params (Str.ofString "_npassedout"), .str (Str.ofString "_npassedout") v.t3, pv⟩, ⟨PyData.keyHash w.params (Str.ofString "_nfinished"), .str (Str.ofString "_nfinished") v.t4, fv⟩] 4
noncomputable abbrev n2iK (a : SA) : List (Int × Value) := [(4, .ref (a.I 4)), (3, .ref (a.I 3)), (2, .ref (a.I 2)), (1, .ref (a.I 1)), (0, .ref (a.I 0))]
noncomputable abbrev niE (a : SA) (v : SV) (k : Nat) : Addr × Obj := (a.I k, niObj (a.dI k) (a.U k) (v.np k) (v.nd k))
noncomputable abbrev diE (a : SA) (k : Nat) : Addr × Obj := (a.dI k, dictOf [] 0)
noncomputable abbrev suE (a : SA) (v : SV) (k : Nat) : Addr × Obj := (a.U k, listOf (List.toArray (v.su k)) (v.eu k))
/-- the five nodes' objects -/
noncomputable def nodesL (a : SA) (v : SV) : List (Addr × Obj) :=
  [niE a v 0, diE a 0, suE a v 0, niE a v 1, diE a 1, suE a v 1, niE a v 2, diE a 2, suE a v 2, niE a v 3, diE a 3, suE a v 3, niE a v 4, diE a 4, suE a v 4]
noncomputable def nodesA (a : SA) : List Addr := [a.I 0, a.dI 0, a.U 0, a.I 1, a.dI 1, a.U 1, a.I 2, a.dI 2, a.U 2, a.I 3, a.dI 3, a.U 3, a.I 4, a.dI 4, a.U 4]
theorem nodesL_fst (a : SA) (v : SV) : (nodesL a v).map (·.1) = nodesA a := rfl
noncomputable abbrev sortL (w : World) (a : SA) (v : SV) (rd pv fv : Value) : List (Addr × Obj) := (a.S, instObj 144 a.dS) :: (a.dS, sDict w a v rd pv fv) :: (a.D, v.oD) :: nodesL a v

/-- the sorter's addresses are apart; its dict of nodes is whole -/
structure SWf (w : World) (a : SA) (v : SV) : Prop where
  n1 : @Ne Nat a.S a.dS
  n2 : @Ne Nat a.S a.D
  n3 : @Ne Nat a.dS a.D
  nd : (nodesA a).Nodup
  oS : a.S ∉ nodesA a
  odS : a.dS ∉ nodesA a
  oD : a.D ∉ nodesA a
  d : v.oD.IsDictOf (intKind PG w) (n2iK a)
  lo : (a.D == sysModules) = false

noncomputable def SV.setNp (v : SV) (k : Nat) (x : Value) : SV := { v with np := fun j => if j = k then x else v.np j }
noncomputable def SV.setSu (v : SV) (k : Nat) (l : List Value) (e : Nat) : SV := { v with su := fun j => if j = k then l else v.su j, eu := fun j => if j = k then e else v.eu j }

/-- an address that the nodes' objects and the frames do not bear -/
def OffAt (d : Addr) (a : SA) (frs : List (Addr × Obj)) : Prop := d ∉ nodesA a ∧ ∀ p ∈ frs, p.1 ≠ d
theorem OffAt.get {d : Addr} {a : SA} {frs : List (Addr × Obj)} {v : SV} (h : OffAt d a frs) : ∀ p ∈ nodesL a v ++ frs, p.1 ≠ d := fun p hp e => by
  rcases List.mem_append.mp hp with hp | hp
  · have := List.mem_map_of_mem (f := (·.1)) hp
    rw [nodesL_fst, e] at this
    exact h.1 this
  · exact h.2 p hp e
/-- the frames lie off the nodes' objects -/
def OffF (a : SA) (frs : List (Addr × Obj)) : Prop := ∀ p ∈ frs, p.1 ∉ nodesA a

theorem nodesL_flat (a : SA) (v : SV) : nodesL a v = (List.range 5).flatMap fun k => [niE a v k, diE a k, suE a v k] := rfl
theorem nodesA_flat (a : SA) : nodesA a = (List.range 5).flatMap fun k => [a.I k, a.dI k, a.U k] := rfl
theorem mem_ni {a : SA} {v : SV} {k : Nat} {r : List (Addr × Obj)} (hk : k < 5) : (a.I k, niObj (a.dI k) (a.U k) (v.np k) (v.nd k)) ∈ nodesL a v ++ r := by
  refine List.mem_append_left _ ?_
  rw [nodesL_flat]
  exact List.mem_flatMap.mpr ⟨k, List.mem_range.mpr hk, .head _⟩
theorem mem_di {a : SA} {v : SV} {k : Nat} {r : List (Addr × Obj)} (hk : k < 5) : (a.dI k, dictOf [] 0) ∈ nodesL a v ++ r := by
  refine List.mem_append_left _ ?_
  rw [nodesL_flat]
  exact List.mem_flatMap.mpr ⟨k, List.mem_range.mpr hk, .tail _ (.head _)⟩
theorem mem_su {a : SA} {v : SV} {k : Nat} {r : List (Addr × Obj)} (hk : k < 5) : (a.U k, listOf (List.toArray (v.su k)) (v.eu k)) ∈ nodesL a v ++ r := by
  refine List.mem_append_left _ ?_
  rw [nodesL_flat]
  exact List.mem_flatMap.mpr ⟨k, List.mem_range.mpr hk, .tail _ (.tail _ (.head _))⟩

theorem upd_app {d : Addr} {o o' : Obj} {l l' r : List (Addr × Obj)} (U : Upd d o o' l l') (hr : ∀ p ∈ r, p.1 ≠ d) : Upd d o o' (l ++ r) (l' ++ r) := by
  induction U with
  | head h => exact .head fun p hp => (List.mem_append.mp hp).elim (h p) (hr p)
  | tail h _ ih => exact .tail h ih
theorem nodup_split {pre post : List Addr} {d : Addr} (h : (pre ++ d :: post).Nodup) : (∀ x ∈ pre, x ≠ d) ∧ ∀ x ∈ post, x ≠ d := by
  rw [List.nodup_append] at h
  exact ⟨fun x hx e => h.2.2 x hx d (.head _) e, fun x hx e => (List.nodup_cons.mp h.2.1).1 (e ▸ hx)⟩
theorem upd_of {d : Addr} {o o' : Obj} (pre post : List (Addr × Obj)) (h : ((pre ++ (d, o) :: post).map (·.1)).Nodup) : Upd d o o' (pre ++ (d, o) :: post) (pre ++ (d, o') :: post) := by
  rw [List.map_append, List.map_cons] at h
  have := nodup_split h
  clear h
  induction pre with
  | nil => exact .head fun p hp => this.2 _ (List.mem_map_of_mem hp)
  | cons q r ih => exact .tail (this.1 _ (.head _)) (ih ⟨fun x hx => this.1 x (.tail _ hx), this.2⟩)
theorem upd_np {a : SA} {v : SV} {k : Nat} {x : Value} {r : List (Addr × Obj)} (hk : k < 5) (nd : (nodesA a).Nodup) (hr : OffF a r) :
    Upd (a.I k) (niObj (a.dI k) (a.U k) (v.np k) (v.nd k)) (niObj (a.dI k) (a.U k) x (v.nd k)) (nodesL a v ++ r) (nodesL a (v.setNp k x) ++ r) := by
  have hI : a.I k ∈ nodesA a := by
    have := List.mem_map_of_mem (f := (·.1)) (mem_ni (a := a) (v := v) (r := []) hk)
    rwa [List.append_nil, nodesL_fst] at this
  refine upd_app ?_ fun p hp e => hr p hp (e ▸ hI)
  rw [← nodesL_fst a v] at nd
  match k, hk with
  | 0, _ => exact upd_of [] [_, _, _, _, _, _, _, _, _, _, _, _, _, _] nd
  | 1, _ => exact upd_of [_, _, _] [_, _, _, _, _, _, _, _, _, _, _] nd
  | 2, _ => exact upd_of [_, _, _, _, _, _] [_, _, _, _, _, _, _, _] nd
  | 3, _ => exact upd_of [_, _, _, _, _, _, _, _, _] [_, _, _, _, _] nd
  | 4, _ => exact upd_of [_, _, _, _, _, _, _, _, _, _, _, _] [_, _] nd
theorem upd_su {a : SA} {v : SV} {k : Nat} {l : List Value} {e : Nat} {r : List (Addr × Obj)} (hk : k < 5) (nd : (nodesA a).Nodup) (hr : OffF a r) :
    Upd (a.U k) (listOf (List.toArray (v.su k)) (v.eu k)) (listOf (List.toArray l) e) (nodesL a v ++ r) (nodesL a (v.setSu k l e) ++ r) := by
  have hI : a.U k ∈ nodesA a := by
    have := List.mem_map_of_mem (f := (·.1)) (mem_su (a := a) (v := v) (r := []) hk)
    rwa [List.append_nil, nodesL_fst] at this
  refine upd_app ?_ fun p hp e => hr p hp (e ▸ hI)
  rw [← nodesL_fst a v] at nd
  match k, hk with
  | 0, _ => exact upd_of [_, _] [_, _, _, _, _, _, _, _, _, _, _, _] nd
  | 1, _ => exact upd_of [_, _, _, _, _] [_, _, _, _, _, _, _, _, _] nd
  | 2, _ => exact upd_of [_, _, _, _, _, _, _, _] [_, _, _, _, _, _] nd
  | 3, _ => exact upd_of [_, _, _, _, _, _, _, _, _, _, _] [_, _, _] nd
  | 4, _ => exact upd_of [_, _, _, _, _, _, _, _, _, _, _, _, _, _] [] nd

theorem upd_push {a : SA} {v : SV} {k : Nat} {x : Value} {r : List (Addr × Obj)} (hk : k < 5) (nd : (nodesA a).Nodup) (hr : OffF a r) :
    Upd (a.U k) (listOf (List.toArray (v.su k)) (v.eu k)) (listOf ((List.toArray (v.su k)).push x) (v.eu k + 1)) (nodesL a v ++ r) (nodesL a (v.setSu k (v.su k ++ [x]) (v.eu k + 1)) ++ r) := by
  rw [List.push_toArray]
  exact upd_su hk nd hr
theorem OffF.cons {a : SA} {p : Addr × Obj} {r : List (Addr × Obj)} (h1 : p.1 ∉ nodesA a) (h2 : OffF a r) : OffF a (p :: r) := fun q hq => by
  rcases List.mem_cons.mp hq with rfl | hq
  · exact h1
  · exact h2 q hq
theorem sort_ne {w : World} {a : SA} {v v2 : SV} {rd pv fv rd2 pv2 fv2 : Value} {I : Addr} (h : ∀ p ∈ sortL w a v rd pv fv, p.1 ≠ I) : ∀ p ∈ sortL w a v2 rd2 pv2 fv2, p.1 ≠ I := fun p hp => by
  have hm : p.1 ∈ (sortL w a v2 rd2 pv2 fv2).map (·.1) := List.mem_map_of_mem hp
  have e : (sortL w a v2 rd2 pv2 fv2).map (·.1) = (sortL w a v rd pv fv).map (·.1) := rfl
  rw [e] at hm
  obtain ⟨q, hq, e⟩ := List.mem_map.mp hm
  exact e ▸ h q hq
theorem upd_right {d : Addr} {o o' : Obj} {l r r' : List (Addr × Obj)} (hl : ∀ p ∈ l, p.1 ≠ d) (U : Upd d o o' r r') : Upd d o o' (l ++ r) (l ++ r') := by
  induction l with
  | nil => exact U
  | cons q t ih => exact .tail (hl q (.head _)) (ih fun p hp => hl p (.tail _ hp))
theorem nodes_ne {a : SA} {v : SV} {d : Addr} (h : d ∉ nodesA a) : ∀ p ∈ nodesL a v, p.1 ≠ d := fun p hp e => by
  have := List.mem_map_of_mem (f := (·.1)) hp
  rw [nodesL_fst, e] at this
  exact h this
theorem OffAt.cons {d : Addr} {a : SA} {p : Addr × Obj} {frs : List (Addr × Obj)} (h1 : p.1 ≠ d) (h2 : OffAt d a frs) : OffAt d a (p :: frs) := ⟨h2.1, fun q hq => by
  rcases List.mem_cons.mp hq with rfl | hq
  · exact h1
  · exact h2.2 q hq⟩
theorem gI {a : SA} {k : Nat} {o : Obj} {l : List (Addr × Obj)} (h : (a.I k, o) ∈ l) : List.Mem (a.I k, o) l := h
theorem gdI {a : SA} {k : Nat} {o : Obj} {l : List (Addr × Obj)} (h : (a.dI k, o) ∈ l) : List.Mem (a.dI k, o) l := h
theorem gU {a : SA} {k : Nat} {o : Obj} {l : List (Addr × Obj)} (h : (a.U k, o) ∈ l) : List.Mem (a.U k, o) l := h
theorem gN {a : SA} {v : SV} {p : Addr × Obj} {r : List (Addr × Obj)} (h : List.Mem p (nodesL a v ++ r)) : List.Mem p (nodesL a v ++ r) := h
theorem guI {a : SA} {k : Nat} {o o' : Obj} {l l' : List (Addr × Obj)} (h : Upd (a.I k) o o' l l') : Upd (a.I k) o o' l l' := h
theorem guU {a : SA} {k : Nat} {o o' : Obj} {l l' : List (Addr × Obj)} (h : Upd (a.U k) o o' l l') : Upd (a.U k) o o' l l' := h
theorem guN {a : SA} {v : SV} {d : Addr} {o o' : Obj} {r l' : List (Addr × Obj)} (h : Upd d o o' (nodesL a v ++ r) l') : Upd d o o' (nodesL a v ++ r) l' := h
section
variable {a : SA} {v : SV} {k : Nat} {r : List (Addr × Obj)}
theorem gmI (h : k < 5) : List.Mem (a.I k, niObj (a.dI k) (a.U k) (v.np k) (v.nd k)) (nodesL a v ++ r) := mem_ni h
theorem gmD (h : k < 5) : List.Mem (a.dI k, dictOf [] 0) (nodesL a v ++ r) := mem_di h
theorem gmU (h : k < 5) : List.Mem (a.U k, listOf (List.toArray (v.su k)) (v.eu k)) (nodesL a v ++ r) := mem_su h
theorem gmR {p : Addr × Obj} : List.Mem p (nodesL a v ++ p :: r) := List.mem_append_right _ (List.Mem.head _)
theorem umI {x : Value} (hk : k < 5) (nd : (nodesA a).Nodup) (hr : OffF a r) : Upd (a.I k) (niObj (a.dI k) (a.U k) (v.np k) (v.nd k)) (niObj (a.dI k) (a.U k) x (v.nd k)) (nodesL a v ++ r) (nodesL a (v.setNp k x) ++ r) := upd_np hk nd hr
theorem umU {x : Value} (hk : k < 5) (nd : (nodesA a).Nodup) (hr : OffF a r) : Upd (a.U k) (listOf (List.toArray (v.su k)) (v.eu k)) (listOf ((List.toArray (v.su k)).push x) (v.eu k + 1)) (nodesL a v ++ r) (nodesL a (v.setSu k (v.su k ++ [x]) (v.eu k + 1)) ++ r) := upd_push hk nd hr
theorem umR {d : Addr} {o o' : Obj} (h : d ∉ nodesA a) (h2 : ∀ p ∈ r, p.1 ≠ d) : Upd d o o' (nodesL a v ++ (d, o) :: r) (nodesL a v ++ (d, o') :: r) := upd_right (nodes_ne h) (Upd.head h2)
end
theorem offF_of {w : World} {a : SA} {v : SV} {rd pv fv : Value} {frs : List (Addr × Obj)} (off : OwnOff frs ((sortL w a v rd pv fv).map (·.1))) : OffF a frs :=
  fun p hp hm => off p hp p.1 (by simp only [List.map_cons, List.mem_cons]; exact .inr (.inr (.inr (by rw [nodesL_fst]; exact hm)))) rfl
theorem offAt_S {w : World} {a : SA} {v : SV} {rd pv fv : Value} {frs : List (Addr × Obj)} (off : OwnOff frs ((sortL w a v rd pv fv).map (·.1))) (wf : SWf w a v) : OffAt a.S a frs := ⟨wf.oS, fun p hp => off p hp _ (by simp)⟩
theorem offAt_dS {w : World} {a : SA} {v : SV} {rd pv fv : Value} {frs : List (Addr × Obj)} (off : OwnOff frs ((sortL w a v rd pv fv).map (·.1))) (wf : SWf w a v) : OffAt a.dS a frs := ⟨wf.odS, fun p hp => off p hp _ (by simp)⟩
theorem offAt_D {w : World} {a : SA} {v : SV} {rd pv fv : Value} {frs : List (Addr × Obj)} (off : OwnOff frs ((sortL w a v rd pv fv).map (·.1))) (wf : SWf w a v) : OffAt a.D a frs := ⟨wf.oD, fun p hp => off p hp _ (by simp)⟩
theorem in_nodesA (a : SA) {k : Nat} (hk : k < 5) : a.I k ∈ nodesA a ∧ a.U k ∈ nodesA a := by
  rw [nodesA_flat]
  exact ⟨List.mem_flatMap.mpr ⟨k, List.mem_range.mpr hk, .head _⟩, List.mem_flatMap.mpr ⟨k, List.mem_range.mpr hk, .tail _ (.tail _ (.head _))⟩⟩

section
variable {prog : Program} {w : World} {K : Type} [DecidableEq K] {knd : KeyKind prog w K} {A : Around} {E : Value → Shared → Prop} {s : Shared} {h₀ : Heap} {L d : Addr} {m : Str → Option Value} {news news' : List (Addr × Obj)} {o : Obj} {kvs : List (K × Value)} {k : K} {key v : Value}
theorem dmap (N : News h₀ L s.heap news) (hm : (d, o) ∈ news) (hd : o.IsDictOf knd kvs) : s.heap.MapOf knd d (valueAt kvs) := (Heap.dictOf_iff.mpr ⟨o, (N _ hm).1, hd⟩).mapOf
theorem dget_method {pl : Sem Bool} {Q : Value × List Value → Shared → Prop} (N : News h₀ L s.heap news) (hm : (d, o) ∈ news) (hd : o.IsDictOf knd kvs) (h : Q (.builtin "dict.get", [.ref d]) s) :
    wpAny (model prog w) A (getMethod (.ref d) (Str.ofString "get") pl) Q E s :=
  getMethod_builtin (dmap N hm hd).typeIs PySem.F.plainAttrs_dict PySem.F.slot_dict_get PySem.F.type_dict_get (dmap N hm hd).noDict h
theorem dget_call {Q : Value → Shared → Prop} (hkey : knd.is k key = true) (N : News h₀ L s.heap news) (hm : (d, o) ∈ news) (hd : o.IsDictOf knd kvs) (lo : (d == sysModules) = false) (h : Q ((valueAt kvs k).getD .none) { s with toks := s.toks + 1 }) :
    wpAny (model prog w) A (call (.builtin "dict.get") [.ref d, key]) Q E s :=
  call_meetsIn PySem.F.slot_dict_get (dmap N hm hd).typeIs PySem.F.entry_dict_get (PySem.F.args_dict_get_2 _ _) (meets_dict_get knd d hkey lo) ⟨_, dmap N hm hd, h⟩
theorem ditem {value slice : Expr} {Q : Value → Shared → Prop} (hkey : knd.is k key = true) (N : News h₀ L s.heap news) (hm : (d, o) ∈ news) (hd : o.IsDictOf knd kvs) (hv : valueAt kvs k = some v) (h : Q v { s with toks := s.toks + 1 })
    (hs : subscripted slice false (.ref d) key = operate [.ref d, key] (getItem (.ref d) key)) :
    wpAny (model prog w) A (subscriptTail value slice (.ref d) key) Q E s :=
  tail_any (dmap N hm hd).typeIs slot_dict_getitem.lookup (wpAny_getItem_of hkey (dmap N hm hd) hv h) hs
end

theorem n2i_at (a : SA) {k : Nat} (hk : k < 5) : valueAt (n2iK a) (k : Int) = some (.ref (a.I k)) := by
  match k, hk with
  | 0, _ => rfl
  | 1, _ => rfl
  | 2, _ => rfl
  | 3, _ => rfl
  | 4, _ => rfl


/-- a list of at most five, each length for itself -/
@[elab_as_elim] theorem upto5 {α : Type} {P : List α → Prop} (l : List α) (hl : l.length ≤ 5) (h0 : P []) (h1 : ∀ a, P [a]) (h2 : ∀ a b, P [a, b]) (h3 : ∀ a b c, P [a, b, c]) (h4 : ∀ a b c d, P [a, b, c, d]) (h5 : ∀ a b c d e, P [a, b, c, d, e]) : P l :=
  match l, hl with
  | [], _ => h0
  | [a], _ => h1 a
  | [a, b], _ => h2 a b
  | [a, b, c], _ => h3 a b c
  | [a, b, c, d], _ => h4 a b c d
  | [a, b, c, d, e], _ => h5 a b c d e
  | _ :: _ :: _ :: _ :: _ :: _ :: _, h => absurd h (by simp)
/-- entering a def with a starred parameter: its tuple is frozen -/
theorem enterV {w : World} {A : Around} {g : Heap} {s : Shared} {news : List (Addr × Obj)} {R : Result → Shared → Prop}
    {name qual : Str} {params : Arguments} {body : List Stmt} {scope : Scope} {dV kV doc pm cdv ct oc : Value} {an od : Option Addr} {osl : Array (Option Value)} {f : Addr} {args : Args} {ps : List Value} {binds : Value → List (Str × Value)}
    (G : Gd w g) (st : g.StaysIn s.heap) (hsz : g.objs.size ≤ s.heap.objs.size)
    (N : Nw g s.heap news)
    (ho : (hd.heap_1 w.params).lookup f = some ⟨oc, od, .func (fnOf name qual params body scope dV kV doc pm an cdv ct), osl⟩)
    (hcd : codeIn (hd.heap_1 w.params) cdv qual = true) (hroom : A.depth < recursionLimit)
    (hbind : bindArgs (fnOf name qual params body scope dV kV doc pm an cdv ct) args = newTuple ps >>= fun t => pure (binds t)) (hps : ps.length ≤ sizeLine) (hloc : ∀ t, ∀ y ∈ binds t, scope.names.lookup y.1 = some .local)
    (h : ∀ g' D L' h₁, g.StaysIn g' → Gd w g' → g'.get? D = some { cls := .type "tuple", data := .seq ps.toArray } → Fr g' L' h₁ (fun y => (binds (.ref D)).reverse.lookup y) → News g' L' h₁ news →
      wpAny (model PG w) (A.deeper (envOf qual scope L' f cdv)) (execs body (envOf qual scope L' f cdv))
        (fun fl s' => R (.ok (.ret (match fl with | .ret v => v | _ => .none))) s') (fun _ _ => False)
        { s with heap := h₁, toks := s.toks + (binds (.ref D)).length })
    (hco : scope.isCoroutine = false) (hgen : scope.isGenerator = false) (hk : scope.kind = .function)
    (hcell : ∀ x ∈ scope.names, x.2 ≠ .cell) : codeAny (model PG w) A (.call (.ref f) args) R s := by
  have X' := G.X.keeps st
  have hlim : g.NoLimit := let ⟨_, _, _, T⟩ := G.T; T.nolimit
  refine codeAny_call_function (fd := fnOf name qual params body scope dV kV doc pm an cdv ct) (body := body) hroom (X' _ _ ho) rfl hco hgen rfl (codeRec_of X' hcd) ?_
  rw [hbind]
  refine wpAny_bind (wpAny_newObj_type (wpAny_pure ?_) (by show ps.toArray.size ≤ sizeLine; rw [List.size_toArray]; exact hps))
  have kp : ∀ b o, s.heap.get? b = some o → (s.heap.push { cls := .type "tuple", data := .seq ps.toArray }).get? b = some o := fun b o e => Heap.get?_push_of_some _ e
  refine wpAny_newFunctionEnv (s := { s with heap := s.heap.push { cls := .type "tuple", data := .seq ps.toArray } }) hcell (hloc _) (fun h₀ hns₀ hsb₀ => ⟨(hlim.keeps fun b o e => kp b o (st b o e)).fresh _ hsb₀, codeAny_func ?_⟩) hk
  have hk₁ : ∀ b o, (s.heap.push { cls := .type "tuple", data := .seq ps.toArray }).get? b = some o → h₀.get? b = some o := fun b o e => hsb₀.extBut b o (Nat.ne_of_lt (Heap.lt_size e)) (Heap.get?_push_of_some _ e)
  have notin : ∀ b o, g.get? b = some o → b ∉ news.map (·.1) := fun b o e hm => by
    obtain ⟨p, hp, rfl⟩ := List.mem_map.mp hm
    rw [(N p hp).2] at e; cases e
  have stg : g.StaysIn (hideAll (s.heap.push { cls := .type "tuple", data := .seq ps.toArray }) (news.map (·.1))) := fun b o e => hideAll_get _ (kp b o (st b o e)) (notin b o e)
  have gD : (hideAll (s.heap.push { cls := .type "tuple", data := .seq ps.toArray }) (news.map (·.1))).get? s.heap.objs.size = some { cls := .type "tuple", data := .seq ps.toArray } :=
    hideAll_get _ (Heap.get?_push_size _ rfl) fun hm => by
      obtain ⟨p, hp, e⟩ := List.mem_map.mp hm
      exact absurd (Heap.lt_size (N p hp).1) (by rw [e]; exact Nat.lt_irrefl _)
  refine wpAny_mono (h _ s.heap.objs.size _ h₀ stg (G.keeps stg) gD ⟨hns₀, fun b o e => hk₁ b o (of_hideAll _ e), Nat.le_of_eq (hideAll_size _ _)⟩ (fun p hp => ?_)) (fun fl s' hl => hl) fun _ _ y => y.elim
  refine ⟨hk₁ _ _ (kp _ _ (N p hp).1), ?_, hideAll_none _ (List.mem_map_of_mem hp)⟩
  show p.1 ≠ (s.heap.push _).objs.size
  rw [push_size]; exact Nat.ne_of_lt (Nat.lt_succ_of_lt (Heap.lt_size (N p hp).1))
end Mine
end PartSo

section PartLoop
theorem Mine.anewLoop : True := by
  w_top off
  trivial
open PySem PySem.W PySem.Calls PyProof.Rows
set_option Elab.async false
set_option maxRecDepth 100000
set_option maxHeartbeats 4000000
namespace Mine

section
variable {g : Heap} {L : Addr} {outer : List Env} {frs0 l : List (Addr × Obj)} {s₀ s : Shared} {m : Str → Option Value}
  {prog : Program} {w : World} {A : Around} {env : Env} {R : Result → Shared → Prop}

theorem mem_mid {α : Type} {p x : α} {l r : List α} (h : p ∈ l ++ ([x] ++ r)) : p ∈ x :: (l ++ r) := by
  rcases List.mem_append.mp h with h | h
  · exact .tail _ (List.mem_append_left _ h)
  · rcases List.mem_cons.mp h with rfl | h
    · exact .head _
    · exact .tail _ (List.mem_append_right _ h)
theorem mem_out {α : Type} {p x : α} {l r : List α} (h : p ∈ x :: (l ++ r)) : p ∈ l ++ (x :: r) := by
  rcases List.mem_cons.mp h with rfl | h
  · exact List.mem_append_right _ (.head _)
  · rcases List.mem_append.mp h with h | h
    · exact List.mem_append_left _ h
    · exact List.mem_append_right _ (.tail _ h)
theorem Stt.of {h : Heap} {tk : Nat} {frs : List (Addr × Obj)} (sl : SlotsOf frs0 frs) (ok : FrsOk outer frs) (F : Fr g L h m) (N : News g L h (l ++ frs)) (off : OwnOff frs (l.map (·.1))) : Stt g L outer frs0 s₀ m l ⟨h, s₀.gens, s₀.drawn, tk, s₀.os⟩ :=
  ⟨h, tk, frs, rfl, sl, ok, F, N, off⟩
theorem Stt.turnAt {l : List (Addr × Obj)} {I : Addr} {oI oI' : Obj} {h' : Heap} {tk : Nat} (x : Stt g L outer frs0 s₀ m ((I, oI) :: l) s) (hl : ∀ p ∈ l, p.1 ≠ I) (k : ∀ b o, b ∉ [I] → s.heap.get? b = some o → h'.get? b = some o) (e : h'.get? I = some oI') :
    Stt g L outer frs0 s₀ m ((I, oI') :: l) { s with heap := h', toks := tk } := by
  obtain ⟨h, tk', frs, rfl, sl, ok, F, N, off⟩ := x
  have k' : ∀ b o, b ≠ I → h.get? b = some o → h'.get? b = some o := fun b o n q => k b o (fun hm => n (List.mem_singleton.mp hm)) q
  have NI := N (I, oI) (.head _)
  obtain ⟨oL, es, ep, hL, r⟩ := F.ns
  refine ⟨h', tk, frs, rfl, sl, ok, ⟨⟨oL, es, ep, k' _ _ (Ne.symm NI.2.1) hL, r⟩, fun b o q => k' b o (fun q' => ?_) (F.keep b o q), F.above⟩, fun p hp => ?_, off⟩
  · rw [q', NI.2.2] at q; cases q
  · rcases List.mem_cons.mp hp with rfl | hp
    · exact ⟨e, NI.2⟩
    · have P := N p (.tail _ hp)
      refine ⟨k' _ _ ?_ P.1, P.2⟩
      rcases List.mem_append.mp hp with q | q
      · exact hl p q
      · exact off p q I (.head _)

/-- a loop's turn, with what it must come to hidden behind names (else each step copies it) -/
theorem turn_veil {M : Model} {B : Around} {E' : Value → Shared → Prop} {s' : Shared} {env' : Env} {body' : List Stmt} {t : Sem PUnit} {post : Flow → Shared → Prop}
    (h : ∀ (Q : Flow → Shared → Prop) (E₁ : Value → Shared → Prop), (∀ f s₁, post f s₁ → Q f s₁) → (∀ e s₁, E' e s₁ → E₁ e s₁) → wpAny M B t (fun _ s₂ => wpAny M B (execs body' env') Q E₁ s₂) E₁ s') :
    wpAny M B t (fun _ s₂ => wpAny M B (execs body' env') post E' s₂) E' s' := h post E' (fun _ _ x => x) fun _ _ x => x
/-- a for over whatever walks -/
theorem Stt.forW {I : Addr} {n : Nat} {fp : List Addr} {P : Nat → Value → Prop} {St : Nat → Heap → Prop} {target : Expr} {body : List Stmt} {oI : Obj} (W : Walks prog w A I fp [I] n P St) (hex : ∀ i h, St i h → ∃ o, h.get? I = some o)
    (J : Nat → (Str → Option Value) → List (Addr × Obj) → Prop) (x : Stt g L outer frs0 s₀ m ((I, oI) :: l) s) (hl : ∀ p ∈ l, p.1 ≠ I) (hst : St 0 s.heap) (h0 : J 0 m l)
    (hsrc : ∀ b ∈ fp, b ≠ I → ∃ ob, ∀ i m₁ l₁ s₁ oI', J i m₁ l₁ → Stt g L outer frs0 s₀ m₁ ((I, oI') :: l₁) s₁ → s₁.heap.get? b = some ob)
    (turn : ∀ i v m₁ l₁ s₁ oI', i < n → P i v → J i m₁ l₁ → (∀ p ∈ l₁, p.1 ≠ I) → Stt g L outer frs0 s₀ m₁ ((I, oI') :: l₁) s₁ →
      wpAny (model prog w) A (assign target env v) (fun _ s₂ => wpAny (model prog w) A (execs body env) (fun f s₃ => match f with
        | .next | .cont => ∃ m₂ l₂, J (i + 1) m₂ l₂ ∧ (∀ p ∈ l₂, p.1 ≠ I) ∧ Stt g L outer frs0 s₀ m₂ ((I, oI') :: l₂) s₃
        | .brk => R (.ok .next) s₃
        | .ret v => R (.ok (.ret v)) s₃) (notedBy (model prog w) A env fun e s' => R (.error e) s') s₂) (notedBy (model prog w) A env fun e s' => R (.error e) s') s₁)
    (done : ∀ m' l' s', J n m' l' → (∀ p ∈ l', p.1 ≠ I) → Stt g L outer frs0 s₀ m' l' s' → R (.ok .next) s')
    (ht : ∀ v, letOwnedTupleGo target (.ref I) v = pure ()) : codeAny (model prog w) A (.forLoop target (.ref I) body [] env) R s := by
  refine codeAny_forLoop (fun k s' => ∃ (i : Nat) (m₁ : Str → Option Value) (l₁ : List (Addr × Obj)) (oI' : Obj), k = n + 1 - i ∧ i ≤ n ∧ J i m₁ l₁ ∧ (∀ p ∈ l₁, p.1 ≠ I) ∧ Stt g L outer frs0 s₀ m₁ ((I, oI') :: l₁) s' ∧ St i s'.heap) ?_ (n + 1) ⟨0, m, l, oI, rfl, Nat.zero_le _, h0, hl, x, hst⟩ ht
  rintro k s' ⟨i, m₁, l₁, oI', rfl, hi, hJ, hl₁, y, st⟩
  by_cases hlt : i < n
  · refine W.item i s' _ _ hlt st fun v h' tk hP st' hk => ?_
    obtain ⟨o', he⟩ := hex _ _ st'
    have y' := y.turnAt (tk := tk) hl₁ hk he
    refine wpAny_mono (turn i v m₁ l₁ _ o' hlt hP hJ hl₁ y') (fun _ s₂ h₂ => wpAny_mono h₂ (fun f s₃ h₃ => ?_) fun _ _ q => q) fun _ _ q => q
    have fin : (∃ m₂ l₂, J (i + 1) m₂ l₂ ∧ (∀ p ∈ l₂, p.1 ≠ I) ∧ Stt g L outer frs0 s₀ m₂ ((I, o') :: l₂) s₃) → ∃ k, k < n + 1 - i ∧ ∃ (i : Nat) (m₁ : Str → Option Value) (l₁ : List (Addr × Obj)) (oI' : Obj), k = n + 1 - i ∧ i ≤ n ∧ J i m₁ l₁ ∧ (∀ p ∈ l₁, p.1 ≠ I) ∧ Stt g L outer frs0 s₀ m₁ ((I, oI') :: l₁) s₃ ∧ St i s₃.heap := by
      rintro ⟨m₂, l₂, hJ₂, hl₂, y₂⟩
      refine ⟨n + 1 - (i + 1), by omega, i + 1, m₂, l₂, o', rfl, hlt, hJ₂, hl₂, y₂, W.frame _ _ _ st' fun b hb o q => ?_⟩
      by_cases hbI : b = I
      · subst hbI
        rw [he] at q; cases q
        exact (y₂.news _ (.head _)).1
      · obtain ⟨ob, hob⟩ := hsrc b hb hbI
        have e1 := hob i m₁ l₁ _ o' hJ y'
        have e2 := hob (i + 1) m₂ l₂ s₃ o' hJ₂ y₂
        rw [e2]
        exact e1.symm.trans q
    cases f with
    | next => exact fin h₃
    | cont => exact fin h₃
    | brk => exact h₃
    | ret v => exact h₃
  · have hin : i = n := by omega
    subst hin
    refine W.done s' _ _ st fun h' tk hk => wpAny_execs_nil ?_
    refine done m₁ l₁ _ hJ hl₁ ?_
    obtain ⟨h, tk', frs, rfl, sl, ok, F, N, off⟩ := y
    have k' : ∀ b o, b ≠ I → h.get? b = some o → h'.get? b = some o := fun b o n q => hk b o (fun hm => n (List.mem_singleton.mp hm)) q
    have NI := N (I, oI') (.head _)
    obtain ⟨oL, es, ep, hL, r⟩ := F.ns
    refine ⟨h', tk, frs, rfl, sl, ok, ⟨⟨oL, es, ep, k' _ _ (Ne.symm NI.2.1) hL, r⟩, fun b o q => k' b o (fun q' => ?_) (F.keep b o q), F.above⟩, fun p hp => ?_, fun p hp b hb => off p hp b (.tail _ hb)⟩
    · rw [q', NI.2.2] at q; cases q
    · have P := N p (.tail _ hp)
      refine ⟨k' _ _ ?_ P.1, P.2⟩
      rcases List.mem_append.mp hp with q | q
      · exact hl₁ p q
      · exact off p q I (.head _)

theorem Stt.push (x : Stt g L outer frs0 s₀ m l s) (o : Obj) (hf : o.isFreed = false := by rfl) : Stt g L outer frs0 s₀ m ((s.heap.objs.size, o) :: l) { s with heap := s.heap.push o } ∧ ∀ p ∈ l, p.1 ≠ s.heap.objs.size := by
  obtain ⟨h, tk, frs, rfl, sl, ok, F, N, off⟩ := x
  refine ⟨⟨_, tk, frs, rfl, sl, ok, F.push o, News.push F N o hf, fun p hp b hb => ?_⟩, fun p hp => Nat.ne_of_lt (Heap.lt_size (N p (List.mem_append_left _ hp)).1)⟩
  rcases List.mem_cons.mp hb with rfl | hb
  · exact Nat.ne_of_lt (Heap.lt_size (N p (List.mem_append_right _ hp)).1)
  · exact off p hp b hb
end
end Mine
end PartLoop

section PartSo1
theorem Mine.anewSo1 : True := by
  w_top off
  trivial
open PySem PySem.W PySem.Calls PyProof.Rows
set_option Elab.async false
set_option maxRecDepth 100000
set_option maxHeartbeats 4000000
namespace Mine
theorem fillSo1 : hd.heap_1 = hd.heap_1 ∧ PySem.Challenge.rw_mg0051_01 = PySem.Challenge.rw_mg0051_01 := by
  k_fill
  exact ⟨rfl, rfl⟩

section
variable {w : World} {A : Around} {E : Value → Shared → Prop} {s : Shared} {h₀ : Heap} {L : Addr} {m : Str → Option Value} {news news' : List (Addr × Obj)} {a : SA} {v : SV} {k : Nat} {expr : Bool}
theorem get_np {Q : Value → Shared → Prop} {n : Int} {t : Tok} (F : Fr h₀ L s.heap m) (X₀ : (hd.heap_1 w.params).In h₀) (N : News h₀ L s.heap news) (h1 : niE a v k ∈ news) (h2 : diE a k ∈ news) (hv : v.np k = .int n t) (h : Q (.int n t) { s with toks := s.toks + 1 }) :
    wpAny (model PG w) A (getAttr (.ref (a.I k)) (Str.ofString "npredecessors") expr) Q E s :=
  get_slot F X₀ (InstAt.of_news N h1 h2) (by k_is) (by k_is) (by k_is) (by k_is) (by k_is) (by k_is) (by show some (v.np k) = _; rw [hv]) rfl h
theorem get_nd {Q : Value → Shared → Prop} {n : Int} {t : Tok} (F : Fr h₀ L s.heap m) (X₀ : (hd.heap_1 w.params).In h₀) (N : News h₀ L s.heap news) (h1 : niE a v k ∈ news) (h2 : diE a k ∈ news) (hv : v.nd k = .int n t) (h : Q (.int n t) { s with toks := s.toks + 1 }) :
    wpAny (model PG w) A (getAttr (.ref (a.I k)) (Str.ofString "node") expr) Q E s :=
  get_slot F X₀ (InstAt.of_news N h1 h2) (by k_is) (by k_is) (by k_is) (by k_is) (by k_is) (by k_is) (by show some (v.nd k) = _; rw [hv]) rfl h
theorem get_su {Q : Value → Shared → Prop} (F : Fr h₀ L s.heap m) (X₀ : (hd.heap_1 w.params).In h₀) (N : News h₀ L s.heap news) (h1 : niE a v k ∈ news) (h2 : diE a k ∈ news) (h : Q (.ref (a.U k)) { s with toks := s.toks + 1 }) :
    wpAny (model PG w) A (getAttr (.ref (a.I k)) (Str.ofString "successors") expr) Q E s :=
  get_slot F X₀ (InstAt.of_news N h1 h2) (by k_is) (by k_is) (by k_is) (by k_is) (by k_is) (by k_is) rfl rfl h
theorem set_np {Q : Unit → Shared → Prop} {x : Value} (F : Fr h₀ L s.heap m) (X₀ : (hd.heap_1 w.params).In h₀) (N : News h₀ L s.heap news) (h1 : niE a v k ∈ news) (h2 : diE a k ∈ news)
    (U : Upd (a.I k) (niObj (a.dI k) (a.U k) (v.np k) (v.nd k)) (niObj (a.dI k) (a.U k) x (v.nd k)) news news') (h : ∀ h', Fr h₀ L h' m → News h₀ L h' news' → Q () { s with heap := h', toks := s.toks + 1 }) :
    wpAny (model PG w) A (setAttr (.ref (a.I k)) (Str.ofString "npredecessors") x) Q E s :=
  set_slot (ox' := niObj (a.dI k) (a.U k) x (v.nd k)) F X₀ N (InstAt.of_news N h1 h2) (by k_is) (by k_is) (by k_is) (by k_is) (by k_is) (by decide) (by first | rfl | simp) rfl U h
end

local macro_rules | `(tactic| walk_at "getMethod ref") => `(tactic| (k_here; (with_reducible show wpAny _ _ (getMethod (Value.ref _) (PySem.Str.ofString "get") _) _ _ _); k_dflt (refine' dget_method ?N ?m ?d ?_; (case N => k_asm); (case m => k_mem); (case d => k_asm))))
local macro_rules | `(tactic| walk_at "call builtin:dict.get") => `(tactic| refine stopAt ?_)

theorem get_nodeinfo_spec (w : World) (a : SA) (v : SV) (wf : SWf w a v) (rd pv fv : Value) (k : Nat) (hk : k < 5) (t : Tok) :
    Spec w 304 13 87 [.ref a.S, .int k t] (sortL w a v rd pv fv) (fun _ => True) (fun r pst => r = .ref (a.I k) ∧ pst = sortL w a v rd pv fv) := by
  intro g outer frs s R G _ ok st hsz N off hR
  obtain ⟨mean, mg, mb, T⟩ := G.T
  have X := G.X
  have hD := wf.d
  refine enter X T.nolimit st hsz N (by k_is) (by k_is) (show 304 < recursionLimit by decide) (BindsTo.of_eq rfl) (locs rfl) ?_ rfl rfl rfl (by decide)
  intro L h₁ hL F N' hlt
  try dsimp only
  simp only [List.cons_append, List.nil_append] at N'
  refine exec_then fun Q1 hQ1 => ?_
  k_steps
  rename Fr _ _ _ _ => F2
  refine dget_call (intKind_is _ _ _ _) N' (by k_mem) hD wf.lo ?_
  rw [n2i_at a hk]
  dsimp only [Option.getD_some]
  k_steps
  refine hQ1 _ _ ?_
  clear hQ1 Q1
  dsimp only
  k_steps
  rename Fr _ _ _ _ => F3
  rename News _ _ _ _ => N3
  exact hR _ _ _ frs (sortL w a v rd pv fv) ⟨rfl, rfl⟩ (SlotsOf.refl _) F3.keep (fun p hp => ⟨(N3 p hp).1, (N3 p hp).2.2⟩) off
end Mine
end PartSo1

section ShareA
open PySem PySem.W PySem.Calls PyProof.Rows Mine
local macro_rules | `(tactic| k_mem) => `(tactic| with_reducible first | exact gmI (by assumption) | exact gmD (by assumption) | exact gmU (by assumption) | exact gmR)
local macro_rules | `(tactic| k_upd) => `(tactic| with_reducible first | exact umI (by assumption) (by assumption) (by assumption) | exact umU (by assumption) (by assumption) (by assumption) | exact umR (by assumption) (by assumption))
local macro_rules | `(tactic| k_all) => `(tactic| exact OffAt.get (by assumption))
local macro_rules | `(tactic| walk_at "getAttr ref") => `(tactic| (k_here; (with_reducible show wpAny _ _ (getAttr (Value.ref (SA.I _ _)) (PySem.Str.ofString "npredecessors") _) _ _ _); k_dflt (refine' get_np ?k1 ?k2 ?k3 ?k4 ?k5 ?k6 ?_; (case k1 => k_asm); (case k2 => k_asm); (case k3 => k_asm); (case k6 => assumption); (case k4 => k_mem); (case k5 => k_mem))))
local macro_rules | `(tactic| walk_at "getAttr ref") => `(tactic| (k_here; (with_reducible show wpAny _ _ (getAttr (Value.ref (SA.I _ _)) (PySem.Str.ofString "successors") _) _ _ _); k_dflt (refine' get_su ?k1 ?k2 ?k3 ?k4 ?k5 ?_; (case k1 => k_asm); (case k2 => k_asm); (case k3 => k_asm); (case k4 => k_mem); (case k5 => k_mem))))
local macro_rules | `(tactic| walk_at "setAttr ref") => `(tactic| (k_here; (with_reducible show wpAny _ _ (setAttr (Value.ref (SA.I _ _)) (PySem.Str.ofString "npredecessors") _) _ _ _); k_dflt (refine' set_np ?k1 ?k2 ?k3 ?k4 ?k5 ?k6 ?_; (case k1 => k_asm); (case k2 => k_asm); (case k3 => k_asm); (case k4 => k_mem); (case k5 => k_mem); (case k6 => k_upd)); intro h' F' N'; (try k_sweep)))
local macro_rules | `(tactic| walk_at "getMethod ref") => `(tactic| (k_here; (with_reducible show wpAny _ _ (getMethod (Value.ref _) (PySem.Str.ofString "get") _) _ _ _); k_dflt (refine' dget_method ?N ?m ?d ?_; (case N => k_asm); (case m => k_mem); (case d => k_asm))))
section PartAdd
theorem Mine.anewAdd : True := by
  w_top off
  trivial
open PySem PySem.W PySem.Calls PyProof.Rows
set_option Elab.async false
set_option maxRecDepth 100000
set_option maxHeartbeats 4000000
namespace Mine
theorem fillAdd : hd.heap_1 = hd.heap_1 ∧ PySem.Challenge.rw_mg0051_01 = PySem.Challenge.rw_mg0051_01 := by
  k_fill
  exact ⟨rfl, rfl⟩

local macro_rules | `(tactic| walk_at "call ref") => `(tactic| refine stopAt ?_)
local macro_rules | `(tactic| walk_at "call builtin:len") => `(tactic| refine stopAt ?_)

/-- what an add of names that are known leaves -/
structure AddTo (v v' : SV) (l : Nat) (node : Value) (c : Int) (es : List Nat) : Prop where
  t1 : v'.t1 = v.t1
  t2 : v'.t2 = v.t2
  t3 : v'.t3 = v.t3
  t4 : v'.t4 = v.t4
  oD : v'.oD = v.oD
  nd : v'.nd = v.nd
  np : ∀ k, k ≠ l → v'.np k = v.np k
  npl : ∀ n t, v.np l = .int n t → ∃ t', v'.np l = .int (n + c) t'
  su : ∀ k, v'.su k = v.su k ++ (es.filter (· == k)).map fun _ => node

theorem add_spec (w : World) (a : SA) (v : SV) (wf : SWf w a v) (pv fv : Value) (l : Nat) (hl : l < 5) (tl : Tok) (n : Int) (tn : Tok) (hn : v.np l = .int n tn) (ps : List Value) (es : List Nat) (hps : IntsAre ps (es.map Int.ofNat)) (hes : ∀ e ∈ es, e < 5) (hlen : es.length ≤ 5)
    (hsu : ∀ k < 5, (v.su k).length ≤ 1000) :
    Spec w 303 10 94 (.ref a.S :: .int l tl :: ps) (sortL w a v .none pv fv) (fun _ => True) (fun r pst => ∃ v', r = .none ∧ pst = sortL w a v' .none pv fv ∧ AddTo v v' l (.int l tl) es.length es) := by
  intro g outer frs s R G _ ok st hsz N off hR
  have hpl : ps.length ≤ 5 := by rw [hps.length, List.length_map]; exact hlen
  have hszl : (2000 : Nat) ≤ sizeLine := by rw [sizeLine_eq]; decide
  refine enterV (ps := ps) (binds := fun t => [(Str.ofString "self", .ref a.S), (Str.ofString "node", .int l tl), (Str.ofString "predecessors", t)]) G st hsz N (by k_is) (by k_is) (show 303 < recursionLimit by decide)
    (by refine upto5 ps hpl ?_ ?_ ?_ ?_ ?_ ?_ <;> intros <;> rfl) (by omega) (fun _ => locs rfl) ?_ rfl rfl rfl (by decide)
  intro g' D L h₁ stg G' hD F N'
  obtain ⟨mean, mg, mb, T⟩ := G'.T
  have X := G'.X
  have hdd := wf.d
  have nd := wf.nd
  simp only [List.cons_append] at N'
  have hI : ∀ k, k < 5 → a.I k ∈ nodesA a ∧ a.U k ∈ nodesA a := fun k hk => in_nodesA a hk
  have q1 : @Ne Nat a.S (a.I l) := fun e => wf.oS (e ▸ (hI l hl).1)
  have q2 : @Ne Nat a.dS (a.I l) := fun e => wf.odS (e ▸ (hI l hl).1)
  have q3 : @Ne Nat a.D (a.I l) := fun e => wf.oD (e ▸ (hI l hl).1)
  refine exec_then fun Q1 hQ1 => ?_
  k_steps
  refine hQ1 _ _ ?_
  clear hQ1 Q1
  dsimp only
  refine exec_then fun Q1 hQ1 => ?_
  k_steps
  rename Fr _ _ _ _ => F1
  rename News _ _ _ _ => N1
  refine Spec.use (get_nodeinfo_spec w a v wf .none pv fv l hl tl) (others := []) (frs := frs) G' F1 N1 rfl rfl ok (fun p hp => by simpa only [List.cons_append, List.nil_append] using hp) (by simpa only [List.nil_append] using off) (fun p hp b hb => by cases hb) (fun _ _ _ _ => trivial) ?_
  intro vv h2 tk2 frs2 pst hp9 sl2 ok2 F2 N2 off2 _ _
  obtain ⟨rfl, rfl⟩ := hp9
  clear F1 N1
  simp only [List.cons_append, List.nil_append] at N2 off2
  have offF := offF_of off2
  k_steps
  refine hQ1 _ _ ?_
  clear hQ1 Q1
  dsimp only
  refine exec_then fun Q1 hQ1 => ?_
  k_steps
  rename Fr _ _ _ _ => F3
  rename News _ _ _ _ => N3
  have htup : ∀ h m', Fr g' L h m' → h.IsTuple D ps.toArray := fun h m' F => ⟨_, F.keep _ _ hD, rfl, _, rfl⟩
  refine len_tuple (show IsTup _ D ps.toArray from ⟨_, F3.keep _ _ hD, rfl, _, rfl⟩) (by rw [List.size_toArray]; omega) ?_
  k_steps
  refine hQ1 _ _ ?_
  clear hQ1 Q1
  dsimp only
  rename_i h4 F4 N4
  rename Fr _ _ _ _ => F5
  rename News _ _ _ _ => N5
  have y5 := fun tk => Stt.of (s₀ := s) (tk := tk) (l := sortL w a (v.setNp l (.int (n + ps.toArray.size) _)) .none pv fv) sl2 ok2 F5 N5 off2
  refine wpAny_execs_cons (wpAny_For ?_)
  refine (y5 _).ld rfl ?_ rfl rfl (by decide)
  refine wpAny_pyIter_tuple (htup _ _ F5) ?_
  obtain ⟨y6, hne⟩ := (y5 _).push { cls := .type "tuple_iterator", data := .fields #[.ref D, .int 0 0] }
  have hszp : ps.toArray.size = es.length := by rw [List.size_toArray, hps.length, List.length_map]
  have hDI : D ≠ h4.objs.size := Nat.ne_of_lt (Heap.lt_size (F5.keep _ _ hD))
  have hIn : h4.objs.size ∉ nodesA a := fun hm => by
    rw [← nodesL_fst a (v.setNp l (.int (n + ps.toArray.size) _))] at hm
    obtain ⟨p, hp, e⟩ := List.mem_map.mp hm
    exact absurd (Heap.lt_size (N5 p (.tail _ (.tail _ (.tail _ (List.mem_append_left _ hp))))).1) (by rw [e]; exact Nat.lt_irrefl _)
  generalize hIdef : h4.objs.size = I at y6 hne hDI hIn
  refine Stt.forW (oI := { cls := .type "tuple_iterator", data := .fields #[.ref D, .int 0 0] }) (Walks.tuple rfl I D hDI ps.toArray) (fun i h x => let ⟨o, e, _⟩ := x.1; ⟨o, e⟩)
    (fun i m' l' => ∃ v', AddTo v v' l (.int l tl) es.length (es.take i) ∧ l' = sortL w a v' .none pv fv ∧ m' (Str.ofString "self") = some (.ref a.S) ∧ m' (Str.ofString "node") = some (.int l tl))
    y6 hne ?hst ?h0 ?hsrc ?turn ?done (fun _ => rfl)
  case hst =>
    refine ⟨⟨_, (y6.news _ (.head _)).1, rfl, rfl⟩, htup _ _ y6.fr⟩
  case h0 =>
    refine ⟨v.setNp l _, ⟨rfl, rfl, rfl, rfl, rfl, rfl, fun k hk => if_neg hk, fun n' t' e => ?_, fun k => by simp [SV.setNp]⟩, rfl, rfl, rfl⟩
    rw [hn] at e; cases e
    exact ⟨_, by rw [← hszp]; exact if_pos rfl⟩
  case hsrc =>
    intro b hb hbI
    have hb' : b = D := by simpa [hbI] using hb
    subst hb'
    exact ⟨_, fun i m₁ l₁ s₁ oI' _ y => y.fr.keep _ _ hD⟩
  case done =>
    rintro m' l' s' ⟨v', ad, rfl, -, -⟩ - y'
    refine wpAny_execs_nil ?_
    obtain ⟨h7, tk7, frs7, rfl, sl7, ok7, F7, N7, off7⟩ := y'
    rw [hszp, List.take_length] at ad
    exact hR _ _ _ frs7 _ ⟨v', rfl, rfl, ad⟩ sl7 (fun b o e => F7.keep b o (stg b o e)) (fun p hp => ⟨(N7 p hp).1, by
      cases q : g.get? p.1 with
      | none => rfl
      | some o => have := (N7 p hp).2.2; rw [stg _ _ q] at this; cases this⟩) off7
  case turn =>
    rintro i val m₁ l₁ s₁ oI hi hP ⟨v', ad, rfl, ms, mn⟩ hl₁ y
    refine turn_veil fun QT EQT hQT hEQT => ?_
    rw [hszp] at hi
    obtain ⟨te, hte⟩ := hps.get i (Int.ofNat es[i]) (by simp [hi])
    have hval : val = .int (Int.ofNat es[i]) te := by
      have hP' : ps[i]? = some val := by simpa using hP
      rw [hte] at hP'; exact (Option.some.inj hP').symm
    subst hval
    have he5 : es[i] < 5 := hes _ (List.getElem_mem hi)
    have wf' : SWf w a v' := ⟨wf.n1, wf.n2, wf.n3, wf.nd, wf.oS, wf.odS, wf.oD, by rw [ad.oD]; exact wf.d, wf.lo⟩
    refine wpAny_assign_Name (y.st (fun s₂ y₂ => ?_) rfl rfl)
    obtain ⟨h7, tk7, frs7, rfl, sl7, ok7, F7, N7, off7⟩ := y₂
    rw [frame_as (m := fun z => if z = Str.ofString "pred" then some (Value.int (Int.ofNat es[i]) te) else m₁ z) [(Str.ofString "self", .ref a.S), (Str.ofString "node", .int l tl), (Str.ofString "pred", .int (Int.ofNat es[i]) te)]
      (by simp only [List.forall_mem_cons]; exact ⟨(if_neg (by decide)).trans ms, (if_neg (by decide)).trans mn, (by first | exact if_pos rfl | exact if_pos trivial), fun _ h => by cases h⟩)] at F7
    simp only [List.cons_append] at N7
    refine exec_then fun Q1 hQ1 => ?_
    k_steps
    refine Spec.use (get_nodeinfo_spec w a v' wf' .none pv fv es[i] he5 te) (others := [(I, oI)]) (frs := frs7) G' F7 N7 rfl rfl ok7 ?_ ?_ ?_ (fun _ _ _ _ => trivial) ?_
    · exact fun p hp => mem_mid hp
    · intro p hp b hb
      rcases List.mem_cons.mp hp with rfl | hp
      · obtain ⟨q, hq, rfl⟩ := List.mem_map.mp hb
        exact Ne.symm (hl₁ q hq)
      · exact off7 p hp b (.tail _ hb)
    · exact fun p hp b hb => by rw [List.mem_singleton.mp hb]; exact off7 p hp I (.head _)
    intro vv h2 tk2 frs2 pst hp9 sl2 ok2 F2 N2 off2 off3 _
    obtain ⟨rfl, rfl⟩ := hp9
    clear F7 N7
    simp only [List.cons_append, List.nil_append] at N2
    have offF : OffF a ((I, oI) :: frs2) := OffF.cons hIn (fun p hp => offF_of (w := w) (v := v') (rd := .none) (pv := pv) (fv := fv) off2 p (.tail _ hp))
    have q1 : @Ne Nat a.S (a.U es[i]) := fun e => wf.oS (e ▸ (hI _ he5).2)
    have q2 : @Ne Nat a.dS (a.U es[i]) := fun e => wf.odS (e ▸ (hI _ he5).2)
    have q3 : @Ne Nat a.D (a.U es[i]) := fun e => wf.oD (e ▸ (hI _ he5).2)
    have hsz9 : (v'.su es[i]).toArray.size ≤ sizeLine := by
      have := hsu _ he5
      have h8 : ((es.take i).filter (· == es[i])).length ≤ 5 := Nat.le_trans (List.length_filter_le _ _) (Nat.le_trans (List.length_take_le' _ _) hlen)
      rw [List.size_toArray, ad.su, List.length_append, List.length_map]; omega
    k_steps
    refine hQ1 _ _ ?_
    clear hQ1 Q1
    dsimp only
    refine exec_then fun Q1 hQ1 => ?_
    k_steps
    refine hQ1 _ _ ?_
    clear hQ1 Q1
    dsimp only
    rename Fr _ _ _ _ => F8
    rename News _ _ _ _ => N8
    have y8 := fun tk => Stt.of (s₀ := s) (tk := tk) (l := (I, oI) :: sortL w a (v'.setSu es[i] (v'.su es[i] ++ [Value.int l tl]) (v'.eu es[i] + 1)) .none pv fv) (sl7.trans sl2) ok2 F8 (fun p hp => N8 p (mem_out hp)) (fun p hp b hb => by
      rcases List.mem_cons.mp hb with rfl | hb
      · exact off3 p hp _ (.head _)
      · exact off2 p (.tail _ hp) b hb)
    refine wpAny_execs_nil (hQT .next _ ⟨_, _, ⟨v'.setSu es[i] (v'.su es[i] ++ [Value.int l tl]) (v'.eu es[i] + 1), ⟨ad.t1, ad.t2, ad.t3, ad.t4, ad.oD, ad.nd, ad.np, ad.npl, fun k => ?_⟩, rfl, ?_, ?_⟩, sort_ne hl₁, y8 _⟩)
    · rw [List.take_add_one, List.filter_append, List.getElem?_eq_getElem hi]
      by_cases hk : k = es[i]
      · subst hk
        simp [SV.setSu, ad.su]
      · have hk' : ¬ (es[i] = k) := fun e => hk e.symm
        simp [SV.setSu, ad.su, hk, hk']
    · rfl
    · rfl
end Mine
end PartAdd

section PartReady
theorem Mine.anewReady : True := by
  w_top off
  trivial
open PySem PySem.W PySem.Calls PyProof.Rows
set_option Elab.async false
set_option maxRecDepth 100000
set_option maxHeartbeats 4000000
namespace Mine
theorem fillRdy : hd.heap_1 = hd.heap_1 ∧ PySem.Challenge.rw_mg0051_01 = PySem.Challenge.rw_mg0051_01 := by
  k_fill
  exact ⟨rfl, rfl⟩

local macro_rules | `(tactic| walk_at "call ref") => `(tactic| refine stopAt ?_)
local macro_rules | `(tactic| walk_at "call builtin:len") => `(tactic| refine stopAt ?_)
local macro_rules | `(tactic| walk_at "call type:tuple") => `(tactic| refine stopAt ?_)
local macro_rules | `(tactic| walk_at "call builtin:list.clear") => `(tactic| refine stopAt ?_)
local macro_rules | `(tactic| walk_at "subscriptTail") => `(tactic| refine stopAt ?_)

theorem get_ready_spec (w : World) (a : SA) (v : SV) (wf : SWf w a v) (R : Addr) (p : Int) (tp : Tok) (fv : Value) (rs : List Value) (er : Nat) (ns : List Nat) (hrs : IntsAre rs (ns.map Int.ofNat)) (hns : ∀ e ∈ ns, e < 5) (hlen : ns.length ≤ 1000)
    (hR0 : R ∉ (sortL w a v .none .none .none).map (·.1)) :
    Spec w 303 10 106 [.ref a.S] (sortL w a v (.ref R) (.int p tp) fv ++ [(R, listOf (List.toArray rs) er)]) (fun _ => True)
      (fun r pst => ∃ v' T t' e', r = .ref T ∧ T ∉ (sortL w a v .none .none .none).map (·.1) ∧ T ≠ R ∧ pst = (T, { cls := .type "tuple", data := .seq (List.toArray rs) }) :: (sortL w a v' (.ref R) (.int (p + ns.length) t') fv ++ [(R, listOf #[] e')]) ∧
        v'.t1 = v.t1 ∧ v'.t2 = v.t2 ∧ v'.t3 = v.t3 ∧ v'.t4 = v.t4 ∧ v'.oD = v.oD ∧ v'.nd = v.nd ∧ v'.su = v.su ∧ v'.eu = v.eu ∧ (∀ k, k ∉ ns → v'.np k = v.np k) ∧ ∀ k ∈ ns, ∃ t, v'.np k = .int (-1) t) := by
  intro g outer frs s RR G _ ok st hsz N off hR
  obtain ⟨mean, mg, mb, T⟩ := G.T
  have X := G.X
  have hdd := wf.d
  have nd := wf.nd
  have hszl : (2000 : Nat) ≤ sizeLine := by rw [sizeLine_eq]; decide
  refine enter X T.nolimit st hsz N (by k_is) (by k_is) (show 303 < recursionLimit by decide) (BindsTo.of_eq rfl) (locs rfl) ?_ rfl rfl rfl (by decide)
  intro L h₁ hL F N' hlt
  try dsimp only
  simp only [List.cons_append, List.append_assoc, List.nil_append] at N'
  simp only [List.cons_append, List.map_cons, List.map_append, List.map_nil] at off
  simp only [List.map_cons, List.mem_cons, not_or] at hR0
  refine exec_then fun Q1 hQ1 => ?_
  k_steps
  refine hQ1 _ _ ?_
  clear hQ1 Q1
  dsimp only
  refine exec_then fun Q1 hQ1 => ?_
  k_steps
  rename Fr _ _ _ _ => F1
  rename News _ _ _ _ => N1
  refine tupleOf_K F1 N1 (show _ from ⟨_, (N1 (R, listOf (List.toArray rs) er) (.tail _ (.tail _ (.tail _ (List.mem_append_right _ (.head _)))))).1, rfl, _, rfl⟩) (by rw [List.size_toArray, hrs.length, List.length_map]; omega) ?_
  intro TT h2 F2 N2 l2
  clear F1 N1
  have hTS := l2
  have l3 := allLt_of l2
  simp only [AllLt] at l3
  k_steps
  refine hQ1 _ _ ?_
  clear hQ1 Q1
  dsimp only
  refine exec_then fun Q1 hQ1 => ?_
  k_steps
  refine hQ1 _ _ ?_
  clear hQ1 Q1
  dsimp only
  rename Fr _ _ _ _ => F5
  rename News _ _ _ _ => N5
  have hRn : R ∉ nodesA a := fun hm => hR0.2.2.2 (by rw [nodesL_fst]; exact hm)
  have offF0 : OffF a frs := fun p hp hm => off p hp p.1 (by simp only [List.mem_cons, List.mem_append]; exact .inr (.inr (.inr (.inl (by rw [nodesL_fst]; exact hm))))) rfl
  have offR : ∀ q ∈ frs, q.1 ≠ R := fun q hq => off q hq R (by simp)
  have hTn : TT ∉ nodesA a := fun hm => by
    rw [← nodesL_fst a v] at hm
    obtain ⟨q, hq, e⟩ := List.mem_map.mp hm
    exact absurd (hTS q (.tail _ (.tail _ (.tail _ (List.mem_append_left _ hq))))) (by rw [e]; exact Nat.lt_irrefl _)
  have hTR : @Ne Nat TT R := Nat.ne_of_gt (hTS (R, listOf (List.toArray rs) er) (.tail _ (.tail _ (.tail _ (List.mem_append_right _ (.head _))))))
  have offT : ∀ q ∈ frs, q.1 ≠ TT := fun q hq => Nat.ne_of_lt (hTS q (.tail _ (.tail _ (.tail _ (List.mem_append_right _ (.tail _ hq))))))
  have htup : ∀ h : Heap, h.get? TT = some { cls := .type "tuple", data := .seq (List.toArray rs) } → h.IsTuple TT rs.toArray := fun h e => ⟨_, e, rfl, _, rfl⟩
  have off5 : OwnOff frs (TT :: (sortL w a v (.ref R) (.int p tp) fv ++ [(R, listOf (List.toArray rs) er)]).map (·.1)) := fun q hq b hb => by
    rcases List.mem_cons.mp hb with rfl | hb
    · exact offT q hq
    · exact off q hq b (by simpa only [List.cons_append, List.map_cons, List.map_append, List.map_nil] using hb)
  have y5 := fun tk => Stt.of (s₀ := s) (tk := tk) (l := (TT, { cls := .type "tuple", data := .seq (List.toArray rs) }) :: (sortL w a v (.ref R) (.int p tp) fv ++ [(R, listOf (List.toArray rs) er)])) (SlotsOf.refl frs) ok F5 (by simpa only [List.cons_append, List.append_assoc, List.nil_append] using N5) off5
  refine exec_then fun Q1 hQ1 => wpAny_For ?_
  refine (y5 _).ld rfl ?_ rfl rfl (by decide)
  refine wpAny_pyIter_tuple (htup _ ((y5 0).news _ (.head _)).1) ?_
  obtain ⟨y6, hne⟩ := (y5 _).push { cls := .type "tuple_iterator", data := .fields #[.ref TT, .int 0 0] }
  have hszp : rs.toArray.size = ns.length := by rw [List.size_toArray, hrs.length, List.length_map]
  dsimp only at y6 hne
  revert y6 hne
  generalize hIdef : Array.size (Heap.objs _) = I
  intro y6 hne
  have hDI : TT ≠ I := hne _ (.head _)
  have hIn : I ∉ nodesA a := fun hm => by
    rw [← nodesL_fst a v] at hm
    obtain ⟨q, hq, e⟩ := List.mem_map.mp hm
    exact hne q (.tail _ (List.mem_append_left _ (.tail _ (.tail _ (.tail _ hq))))) e
  refine Stt.forW (oI := { cls := .type "tuple_iterator", data := .fields #[.ref TT, .int 0 0] }) (Walks.tuple rfl I TT hDI rs.toArray) (fun i h x => let ⟨o, e, _⟩ := x.1; ⟨o, e⟩)
    (fun i m' l' => ∃ v', (v'.t1 = v.t1 ∧ v'.t2 = v.t2 ∧ v'.t3 = v.t3 ∧ v'.t4 = v.t4 ∧ v'.oD = v.oD ∧ v'.nd = v.nd ∧ v'.su = v.su ∧ v'.eu = v.eu ∧ (∀ k, k ∉ ns.take i → v'.np k = v.np k) ∧ ∀ k ∈ ns.take i, ∃ t, v'.np k = .int (-1) t) ∧
      l' = (TT, { cls := .type "tuple", data := .seq (List.toArray rs) }) :: (sortL w a v' (.ref R) (.int p tp) fv ++ [(R, listOf (List.toArray rs) er)]) ∧ m' (Str.ofString "self") = some (.ref a.S) ∧ m' (Str.ofString "n2i") = some (.ref a.D) ∧ m' (Str.ofString "result") = some (.ref TT))
    y6 hne ?hst ?h0 ?hsrc ?turn ?done (fun _ => rfl)
  case hst => exact ⟨⟨_, (y6.news _ (.head _)).1, rfl, rfl⟩, htup _ (y6.news _ (.tail _ (.head _))).1⟩
  case h0 => exact ⟨v, ⟨rfl, rfl, rfl, rfl, rfl, rfl, rfl, rfl, fun _ _ => rfl, fun k hk => by simp at hk⟩, rfl, rfl, rfl, rfl⟩
  case hsrc =>
    intro b hb hbI
    have hb' : b = TT := by simpa [hbI] using hb
    subst hb'
    refine ⟨{ cls := .type "tuple", data := .seq (List.toArray rs) }, ?_⟩
    rintro i m₁ l₁ s₁ oI' ⟨v', _, rfl, _⟩ y
    exact (y.news _ (.tail _ (.head _))).1
  case done =>
    rintro m' l' s' ⟨v', ad, rfl, ms, mn, mr⟩ hl' y'
    refine hQ1 _ _ ?_
    clear hQ1
    dsimp only
    rw [hszp, List.take_length] at ad
    obtain ⟨h7, tk7, frs7, rfl, sl7, ok7, F7, N7, off7⟩ := y'
    rw [frame_as (m := m') [(Str.ofString "self", .ref a.S), (Str.ofString "n2i", .ref a.D), (Str.ofString "result", .ref TT)]
      (by simp only [List.forall_mem_cons]; exact ⟨ms, mn, mr, fun _ h => by cases h⟩)] at F7
    simp only [List.cons_append, List.append_assoc, List.nil_append] at N7
    have off8 := off7
    simp only [List.cons_append, List.map_cons, List.map_append, List.map_nil] at off7
    have offR7 : ∀ q ∈ frs7, q.1 ≠ R := fun q hq => off7 q hq R (by simp)
    have odS : OffAt a.dS a frs7 := ⟨wf.odS, fun q hq => off7 q hq _ (by simp)⟩
    have n1 := wf.n1
    have n2 := wf.n2
    have n3 := wf.n3
    refine exec_then fun Q2 hQ2 => ?_
    k_steps
    rename Fr _ _ _ _ => F8
    rename News _ _ _ _ => N8
    refine clear_K F8 N8 (.tail hTR (.tail (Ne.symm hR0.1) (.tail (Ne.symm hR0.2.1) (.tail (Ne.symm hR0.2.2.1) (upd_right (nodes_ne hRn) (.head offR7)))))) (by rw [hszp]; omega) fun h9 F9 N9 => ?_
    clear F8 N8
    refine hQ2 _ _ ?_
    clear hQ2 Q2
    dsimp only
    have odS' : OffAt a.dS a ((R, listOf #[] (clrE rs.toArray er)) :: frs7) := OffAt.cons hR0.2.1 odS
    refine exec_then fun Q2 hQ2 => ?_
    k_steps
    rename News _ _ _ _ => N10
    refine len_tuple (show IsTup _ TT rs.toArray from ⟨_, (N10 _ (.head _)).1, rfl, _, rfl⟩) (by rw [hszp]; omega) ?_
    k_steps
    refine hQ2 _ _ ?_
    clear hQ2 Q2
    dsimp only
    k_steps
    rename Fr _ _ _ _ => F11
    rename News _ _ _ _ => N11
    rw [hszp] at N11
    obtain ⟨t', N12⟩ : ∃ t', News g L _ ((TT, { cls := .type "tuple", data := .seq (List.toArray rs) }) :: (a.S, instObj 144 a.dS) :: (a.dS, sDict w a v' (.ref R) (.int (p + ns.length) t') fv) :: (a.D, v'.oD) :: (nodesL a v' ++ (R, listOf #[] (clrE rs.toArray er)) :: frs7)) := ⟨_, N11⟩
    dsimp only
    refine hR _ _ _ frs7 ((TT, { cls := .type "tuple", data := .seq (List.toArray rs) }) :: (sortL w a v' (.ref R) (.int (p + ns.length) t') fv ++ [(R, listOf #[] (clrE rs.toArray er))]))
      ⟨v', TT, t', _, rfl, ?_, hTR, rfl, ad⟩ sl7 F11.keep (fun q hq => ?_) off8
    · simp only [List.map_cons, List.mem_cons, nodesL_fst, not_or]
      exact ⟨Nat.ne_of_gt l3.1, Nat.ne_of_gt l3.2.1, Nat.ne_of_gt l3.2.2.1, hTn⟩
    · have hq' := hq
      simp only [List.cons_append, List.append_assoc, List.nil_append] at hq'
      exact ⟨(N12 q hq').1, (N12 q hq').2.2⟩
  case turn =>
    rintro i val m₁ l₁ s₁ oI hi hP ⟨v', ad, rfl, ms, mn, mr⟩ hl₁ y
    refine turn_veil fun QT EQT hQT hEQT => ?_
    rw [hszp] at hi
    obtain ⟨te, hte⟩ := hrs.get i (Int.ofNat ns[i]) (by simp [hi])
    have hval : val = .int (Int.ofNat ns[i]) te := by
      have hP' : rs[i]? = some val := by simpa using hP
      rw [hte] at hP'; exact (Option.some.inj hP').symm
    subst hval
    have he5 : ns[i] < 5 := hns _ (List.getElem_mem hi)
    have hdd' : v'.oD.IsDictOf (intKind PG w) (n2iK a) := by rw [ad.2.2.2.2.1]; exact hdd
    refine wpAny_assign_Name (y.st (fun s₂ y₂ => ?_) rfl rfl)
    obtain ⟨h7, tk7, frs7, rfl, sl7, ok7, F7, N7, off7⟩ := y₂
    rw [frame_as (m := fun z => if z = Str.ofString "node" then some (Value.int (Int.ofNat ns[i]) te) else m₁ z) [(Str.ofString "self", .ref a.S), (Str.ofString "n2i", .ref a.D), (Str.ofString "result", .ref TT), (Str.ofString "node", .int (Int.ofNat ns[i]) te)]
      (by simp only [List.forall_mem_cons]; exact ⟨(if_neg (by decide)).trans ms, (if_neg (by decide)).trans mn, (if_neg (by decide)).trans mr, (by first | exact if_pos rfl | exact if_pos trivial), fun _ h => by cases h⟩)] at F7
    simp only [List.cons_append, List.append_assoc, List.nil_append] at N7
    have off8 := off7
    simp only [List.cons_append, List.map_cons, List.map_append, List.map_nil] at off7
    have offF : OffF a ((R, listOf (List.toArray rs) er) :: frs7) := OffF.cons hRn fun q hq hm => off7 q hq q.1 (by simp only [List.mem_cons, List.mem_append]; exact .inr (.inr (.inr (.inr (.inr (.inl (by rw [nodesL_fst]; exact hm))))))) rfl
    have q0 : @Ne Nat I (a.I ns[i]) := fun e => hIn (e ▸ (in_nodesA a he5).1)
    have qT : @Ne Nat TT (a.I ns[i]) := fun e => hTn (e ▸ (in_nodesA a he5).1)
    have q1 : @Ne Nat a.S (a.I ns[i]) := fun e => wf.oS (e ▸ (in_nodesA a he5).1)
    have q2 : @Ne Nat a.dS (a.I ns[i]) := fun e => wf.odS (e ▸ (in_nodesA a he5).1)
    have q3 : @Ne Nat a.D (a.I ns[i]) := fun e => wf.oD (e ▸ (in_nodesA a he5).1)
    refine exec_then fun Q2 hQ2 => ?_
    k_steps
    refine ditem (intKind_is _ _ _ _) N7 (by k_mem) hdd' (n2i_at a he5) ?_ (by with_unfolding_all rfl)
    k_steps
    refine hQ2 _ _ ?_
    clear hQ2 Q2
    dsimp only
    rename Fr _ _ _ _ => F8
    rename News _ _ _ _ => N8
    have y8 := fun tk => Stt.of (s₀ := s) (tk := tk) (l := (I, oI) :: (TT, { cls := .type "tuple", data := .seq (List.toArray rs) }) :: (sortL w a (v'.setNp ns[i] (.int (-1) 213)) (.ref R) (.int p tp) fv ++ [(R, listOf (List.toArray rs) er)])) sl7 ok7 F8 (by simp only [List.cons_append, List.append_assoc, List.nil_append]; exact N8) off8
    refine wpAny_execs_nil (hQT .next _ ⟨_, _, ⟨v'.setNp ns[i] (.int (-1) 213), ⟨ad.1, ad.2.1, ad.2.2.1, ad.2.2.2.1, ad.2.2.2.2.1, ad.2.2.2.2.2.1, ad.2.2.2.2.2.2.1, ad.2.2.2.2.2.2.2.1, ?_, ?_⟩, rfl, ?_, ?_, ?_⟩, ?_, y8 _⟩)
    · intro k hk
      rw [List.take_add_one, List.getElem?_eq_getElem hi] at hk
      simp only [Option.toList_some, List.mem_append, List.mem_singleton, not_or] at hk
      exact (if_neg hk.2).trans (ad.2.2.2.2.2.2.2.2.1 k hk.1)
    · intro k hk
      rw [List.take_add_one, List.getElem?_eq_getElem hi] at hk
      simp only [Option.toList_some, List.mem_append, List.mem_singleton] at hk
      by_cases hki : k = ns[i]
      · exact ⟨213, if_pos hki⟩
      · obtain ⟨t', e⟩ := ad.2.2.2.2.2.2.2.2.2 k (hk.resolve_right hki)
        exact ⟨t', (if_neg hki).trans e⟩
    · rfl
    · rfl
    · rfl
    · intro q hq
      rcases List.mem_cons.mp hq with rfl | hq
      · exact hDI
      · rcases List.mem_append.mp hq with hq | hq
        · exact sort_ne (fun q hq => hl₁ q (.tail _ (List.mem_append_left _ hq))) q hq
        · exact hl₁ q (.tail _ (List.mem_append_right _ hq))
end Mine
end PartReady

section PartDone
theorem Mine.anewDone : True := by
  w_top off
  trivial
open PySem PySem.W PySem.Calls PyProof.Rows
set_option Elab.async false
set_option maxRecDepth 100000
set_option maxHeartbeats 4000000
namespace Mine
theorem fillDone : hd.heap_1 = hd.heap_1 ∧ PySem.Challenge.rw_mg0051_01 = PySem.Challenge.rw_mg0051_01 := by
  k_fill
  exact ⟨rfl, rfl⟩

/-- what done reckons with: the counts and the ready names -/
structure PS where
  np : Nat → Int
  rd : List Nat
noncomputable def relax (σ : PS) (s : Nat) : PS := ⟨fun j => if j = s then σ.np s - 1 else σ.np j, if σ.np s - 1 = 0 then σ.rd ++ [s] else σ.rd⟩
noncomputable def outOne (σ : PS) (k : Nat) : PS := ⟨fun j => if j = k then -2 else σ.np j, σ.rd⟩
noncomputable def doneOne (su : Nat → List Nat) (σ : PS) (k : Nat) : PS := (su k).foldl relax (outOne σ k)
def doneOk (su : Nat → List Nat) : PS → List Nat → Prop
  | _, [] => True
  | σ, k :: ks => σ.np k = -1 ∧ doneOk su (doneOne su σ k) ks
theorem relax_len (σ : PS) (s : Nat) : (relax σ s).rd.length ≤ σ.rd.length + 1 := by
  unfold relax
  dsimp only
  split <;> simp
theorem relaxes_len (l : List Nat) (σ : PS) : (l.foldl relax σ).rd.length ≤ σ.rd.length + l.length := by
  induction l generalizing σ with
  | nil => simp
  | cons x r ih => rw [List.foldl_cons, List.length_cons]; have := ih (relax σ x); have := relax_len σ x; omega
theorem doneOk_take {su : Nat → List Nat} {σ : PS} {ks : List Nat} (h : doneOk su σ ks) {i : Nat} (hi : i < ks.length) : ((ks.take i).foldl (doneOne su) σ).np ks[i] = -1 := by
  induction ks generalizing σ i with
  | nil => simp at hi
  | cons k r ih =>
    cases i with
    | zero => exact h.1
    | succ i => simpa using ih h.2 (by simpa using hi)

structure Same (v v' : SV) : Prop where
  t1 : v'.t1 = v.t1
  t2 : v'.t2 = v.t2
  t3 : v'.t3 = v.t3
  t4 : v'.t4 = v.t4
  oD : v'.oD = v.oD
  nd : v'.nd = v.nd
  su : v'.su = v.su
  eu : v'.eu = v.eu
theorem Same.refl (v : SV) : Same v v := ⟨rfl, rfl, rfl, rfl, rfl, rfl, rfl, rfl⟩
theorem Same.trans {a b c : SV} (x : Same a b) (y : Same b c) : Same a c := ⟨y.t1.trans x.t1, y.t2.trans x.t2, y.t3.trans x.t3, y.t4.trans x.t4, y.oD.trans x.oD, y.nd.trans x.nd, y.su.trans x.su, y.eu.trans x.eu⟩
theorem Same.np (v : SV) (k : Nat) (x : Value) : Same v (v.setNp k x) := ⟨rfl, rfl, rfl, rfl, rfl, rfl, rfl, rfl⟩
theorem Same.wf {w : World} {a : SA} {v v' : SV} (x : Same v v') (wf : SWf w a v) : SWf w a v' := ⟨wf.n1, wf.n2, wf.n3, wf.nd, wf.oS, wf.odS, wf.oD, by rw [x.oD]; exact wf.d, wf.lo⟩
def RelN (v : SV) (σ : PS) : Prop := ∀ k < 5, ∃ t, v.np k = .int (σ.np k) t
theorem RelN.set {v : SV} {σ : PS} (h : RelN v σ) {k : Nat} {n : Int} {t : Tok} {rd : List Nat} : RelN (v.setNp k (.int n t)) ⟨fun j => if j = k then n else σ.np j, rd⟩ := fun j hj => by
  by_cases e : j = k
  · exact ⟨t, by simp [SV.setNp, e]⟩
  · obtain ⟨t', q⟩ := h j hj
    exact ⟨t', by simp [SV.setNp, e, q]⟩

local macro_rules | `(tactic| walk_at "call ref") => `(tactic| refine stopAt ?_)
local macro_rules | `(tactic| walk_at "call builtin:dict.get") => `(tactic| refine stopAt ?_)
local macro_rules | `(tactic| walk_at "subscriptTail") => `(tactic| refine stopAt ?_)
local macro_rules | `(tactic| walk_at "pyIter ref") => `(tactic| refine stopAt ?_)
local macro_rules | `(tactic| walk_at "call builtin:list.append") => `(tactic| refine stopAt ?_)

noncomputable abbrev dnL (w : World) (a : SA) (v : SV) (R : Addr) (pv : Value) (f : Int) (tf : Tok) (rs : List Value) (er : Nat) : List (Addr × Obj) := sortL w a v (.ref R) pv (.int f tf) ++ [(R, listOf (List.toArray rs) er)]

theorem done_spec (w : World) (a : SA) (v : SV) (wf : SWf w a v) (R : Addr) (pv : Value) (f : Int) (tf : Tok) (rs : List Value) (er : Nat) (σ : PS) (su : Nat → List Nat) (ps : List Value) (ks : List Nat)
    (hn : RelN v σ) (hrs : IntsAre rs (σ.rd.map Int.ofNat)) (hsu : ∀ k < 5, IntsAre (v.su k) ((su k).map Int.ofNat) ∧ (∀ j ∈ su k, j < 5) ∧ (su k).length ≤ 100) (hps : IntsAre ps (ks.map Int.ofNat)) (hks : ∀ e ∈ ks, e < 5) (hlen : ks.length ≤ 5) (hrl : σ.rd.length ≤ 100)
    (hok : doneOk su σ ks) (hR0 : R ∉ (sortL w a v .none .none .none).map (·.1)) :
    Spec w 303 10 127 (.ref a.S :: ps) (dnL w a v R pv f tf rs er) (fun _ => True)
      (fun r pst => ∃ v' t' rs' e', r = .none ∧ pst = dnL w a v' R pv (f + ks.length) t' rs' e' ∧ Same v v' ∧ RelN v' (ks.foldl (doneOne su) σ) ∧ IntsAre rs' ((ks.foldl (doneOne su) σ).rd.map Int.ofNat)) := by
  intro g outer frs s RR G _ ok st hsz N off hR
  have hpl : ps.length ≤ 5 := by rw [hps.length, List.length_map]; exact hlen
  have hszl : (2000 : Nat) ≤ sizeLine := by rw [sizeLine_eq]; decide
  refine enterV (ps := ps) (binds := fun t => [(Str.ofString "self", .ref a.S), (Str.ofString "nodes", t)]) G st hsz N (by k_is) (by k_is) (show 303 < recursionLimit by decide)
    (by refine upto5 ps hpl ?_ ?_ ?_ ?_ ?_ ?_ <;> intros <;> rfl) (by omega) (fun _ => locs rfl) ?_ rfl rfl rfl (by decide)
  intro g' D L h₁ stg G' hD F N'
  obtain ⟨mean, mg, mb, T⟩ := G'.T
  have X := G'.X
  have hdd := wf.d
  have nd := wf.nd
  simp only [List.cons_append, List.append_assoc, List.nil_append] at N'
  have hRn : R ∉ nodesA a := fun hm => hR0 (by simp only [List.map_cons, List.mem_cons]; exact .inr (.inr (.inr (by rw [nodesL_fst]; exact hm))))
  refine exec_then fun Q1 hQ1 => ?_
  k_steps
  refine hQ1 _ _ ?_
  clear hQ1 Q1
  dsimp only
  refine exec_then fun Q1 hQ1 => ?_
  k_steps
  refine hQ1 _ _ ?_
  clear hQ1 Q1
  dsimp only
  rename Fr _ _ _ _ => F5
  rename News _ _ _ _ => N5
  have hszp : ps.toArray.size = ks.length := by rw [List.size_toArray, hps.length, List.length_map]
  have htup : ∀ h m', Fr g' L h m' → h.IsTuple D ps.toArray := fun h m' F => ⟨_, F.keep _ _ hD, rfl, _, rfl⟩
  have y5 := fun tk => Stt.of (s₀ := s) (tk := tk) (l := dnL w a v R pv f tf rs er) (SlotsOf.refl frs) ok F5 (by simp only [List.cons_append, List.append_assoc, List.nil_append]; exact N5) off
  refine wpAny_execs_cons (wpAny_For ?_)
  refine (y5 _).ld rfl ?_ rfl rfl (by decide)
  refine wpAny_pyIter_tuple (htup _ _ F5) ?_
  obtain ⟨y6, hne⟩ := (y5 _).push { cls := .type "tuple_iterator", data := .fields #[.ref D, .int 0 0] }
  have hDI : D ≠ Array.size (Heap.objs _) := Nat.ne_of_lt (Heap.lt_size (F5.keep _ _ hD))
  dsimp only at y6 hne
  revert y6 hne hDI
  generalize hIdef : Array.size (Heap.objs _) = I
  intro y6 hne hDI
  have hIn : I ∉ nodesA a := fun hm => by
    rw [← nodesL_fst a v] at hm
    obtain ⟨q, hq, e⟩ := List.mem_map.mp hm
    exact hne q (List.mem_append_left _ (.tail _ (.tail _ (.tail _ hq)))) e
  have hIR : @Ne Nat I R := fun e => hne (R, listOf (List.toArray rs) er) (List.mem_append_right _ (.head _)) e.symm
  have hIS : @Ne Nat I a.S := fun e => hne (a.S, instObj 144 a.dS) (.head _) e.symm
  have hIdS : @Ne Nat I a.dS := fun e => hne (a.dS, sDict w a v (.ref R) pv (.int f tf)) (.tail _ (.head _)) e.symm
  have hID : @Ne Nat I a.D := fun e => hne (a.D, v.oD) (.tail _ (.tail _ (.head _))) e.symm
  simp only [List.map_cons, List.mem_cons, not_or] at hR0
  have hRS : @Ne Nat R a.S := hR0.1
  have hRdS : @Ne Nat R a.dS := hR0.2.1
  have hRD : @Ne Nat R a.D := hR0.2.2.1
  have n1 := wf.n1
  have n2 := wf.n2
  have n3 := wf.n3
  refine Stt.forW (oI := { cls := .type "tuple_iterator", data := .fields #[.ref D, .int 0 0] }) (Walks.tuple rfl I D hDI ps.toArray) (fun i h x => let ⟨o, e, _⟩ := x.1; ⟨o, e⟩)
    (fun i m' l' => ∃ v' t' rs' e', Same v v' ∧ RelN v' ((ks.take i).foldl (doneOne su) σ) ∧ IntsAre rs' (((ks.take i).foldl (doneOne su) σ).rd.map Int.ofNat) ∧ ((ks.take i).foldl (doneOne su) σ).rd.length ≤ 100 + 100 * i ∧ l' = dnL w a v' R pv (f + i) t' rs' e' ∧ m' (Str.ofString "self") = some (.ref a.S) ∧ m' (Str.ofString "n2i") = some (.ref a.D))
    y6 hne ?hst ?h0 ?hsrc ?turn ?done (fun _ => rfl)
  case hst => exact ⟨⟨_, (y6.news _ (.head _)).1, rfl, rfl⟩, htup _ _ y6.fr⟩
  case h0 => exact ⟨v, tf, rs, er, Same.refl v, hn, hrs, by simpa using hrl, by simp, rfl, rfl⟩
  case hsrc =>
    intro b hb hbI
    have hb' : b = D := by simpa [hbI] using hb
    subst hb'
    exact ⟨_, fun i m₁ l₁ s₁ oI' _ y => y.fr.keep _ _ hD⟩
  case done =>
    rintro m' l' s' ⟨v', t', rs', e', sm, hn', hrs', -, rfl, -, -⟩ - y'
    refine wpAny_execs_nil ?_
    obtain ⟨h7, tk7, frs7, rfl, sl7, ok7, F7, N7, off7⟩ := y'
    rw [hszp, List.take_length] at hn' hrs'
    rw [hszp] at N7
    exact hR _ _ _ frs7 _ ⟨v', t', rs', e', rfl, rfl, sm, hn', hrs'⟩ sl7 (fun b o e => F7.keep b o (stg b o e)) (fun p hp => ⟨(N7 p hp).1, by
      cases q : g.get? p.1 with
      | none => rfl
      | some o => have := (N7 p hp).2.2; rw [stg _ _ q] at this; cases this⟩) off7
  case turn =>
    rintro i val m₁ l₁ s₁ oI hi hP ⟨v', t', rs', e', sm, hn', hrs', hrl', rfl, ms, mn⟩ hl₁ y
    refine turn_veil fun QT EQT hQT hEQT => ?_
    rw [hszp] at hi
    obtain ⟨te, hte⟩ := hps.get i (Int.ofNat ks[i]) (by simp [hi])
    have hval : val = .int (Int.ofNat ks[i]) te := by
      have hP' : ps[i]? = some val := by simpa using hP
      rw [hte] at hP'; exact (Option.some.inj hP').symm
    subst hval
    have he5 : ks[i] < 5 := hks _ (List.getElem_mem hi)
    have hout := doneOk_take hok hi
    generalize hσ : (ks.take i).foldl (doneOne su) σ = σ' at hn' hrs' hrl' hout
    generalize hk : ks[i] = k at he5 hout y
    have wf' := sm.wf wf
    have hdd' := wf'.d
    obtain ⟨tn, hnp⟩ := hn' k he5
    rw [hout] at hnp
    refine wpAny_assign_Name (y.st (fun s₂ y₂ => ?_) rfl rfl)
    obtain ⟨h7, tk7, frs7, rfl, sl7, ok7, F7, N7, off7⟩ := y₂
    rw [frame_as (m := fun z => if z = Str.ofString "node" then some (Value.int (Int.ofNat k) te) else m₁ z) [(Str.ofString "self", .ref a.S), (Str.ofString "n2i", .ref a.D), (Str.ofString "node", .int (Int.ofNat k) te)]
      (by simp only [List.forall_mem_cons]; exact ⟨(if_neg (by decide)).trans ms, (if_neg (by decide)).trans mn, (by first | exact if_pos rfl | exact if_pos trivial), fun _ h => by cases h⟩)] at F7
    simp only [List.cons_append, List.append_assoc, List.nil_append] at N7
    have off8 := off7
    simp only [List.cons_append, List.map_cons, List.map_append, List.map_nil] at off7
    have offR : ∀ q ∈ frs7, q.1 ≠ R := fun q hq => off7 q hq R (by simp)
    have offN : OffF a frs7 := fun q hq hm => off7 q hq q.1 (by simp only [List.mem_cons, List.mem_append]; exact .inr (.inr (.inr (.inr (.inl (by rw [nodesL_fst]; exact hm)))))) rfl
    have offF : OffF a ((R, listOf (List.toArray rs') e') :: frs7) := OffF.cons hRn offN
    have q0 : @Ne Nat I (a.I k) := fun e => hIn (e ▸ (in_nodesA a he5).1)
    have q1 : @Ne Nat a.S (a.I k) := fun e => wf.oS (e ▸ (in_nodesA a he5).1)
    have q2 : @Ne Nat a.dS (a.I k) := fun e => wf.odS (e ▸ (in_nodesA a he5).1)
    have q3 : @Ne Nat a.D (a.I k) := fun e => wf.oD (e ▸ (in_nodesA a he5).1)
    refine exec_then fun Q2 hQ2 => ?_
    k_steps
    rename Fr _ _ _ _ => F8
    refine dget_call (intKind_is _ _ _ _) N7 (by k_mem) hdd' wf.lo ?_
    rw [show valueAt (n2iK a) (Int.ofNat k) = some (.ref (a.I k)) from n2i_at a he5]
    dsimp only [Option.getD_some]
    k_steps
    refine hQ2 _ _ ?_
    clear hQ2 Q2
    dsimp only
    refine exec_then fun Q2 hQ2 => ?_
    k_steps
    refine hQ2 _ _ ?_
    clear hQ2 Q2
    dsimp only
    refine exec_then fun Q2 hQ2 => ?_
    k_steps
    refine hQ2 _ _ ?_
    clear hQ2 Q2
    dsimp only
    refine exec_then fun Q2 hQ2 => ?_
    k_steps
    refine hQ2 _ _ ?_
    clear hQ2 Q2
    dsimp only
    rename Fr _ _ _ _ => F9
    rename News _ _ _ _ => N9
    have sm2 : Same v (v'.setNp k (.int (-2) 216)) := sm.trans (Same.np v' k _)
    have hn2 : RelN (v'.setNp k (.int (-2) 216)) (outOne σ' k) := hn'.set
    generalize hv2 : v'.setNp k (.int (-2) 216) = v2 at sm2 hn2 N9
    have eS : sDict w a v' (.ref R) pv (.int (f + i) t') = sDict w a v2 (.ref R) pv (.int (f + i) t') := by rw [← hv2]; rfl
    have eD : v'.oD = v2.oD := by rw [← hv2]; rfl
    rw [eS, eD] at N9
    obtain ⟨hsuk, hsu5, hsul⟩ := hsu k he5
    have hsuv : v2.su k = v.su k := by rw [sm2.su]
    refine exec_then fun Q2 hQ2 => wpAny_For ?_
    k_steps
    rename Fr _ _ _ _ => F10
    rename News _ _ _ _ => N10
    have hlist : ∀ h u, News g' L h ((I, oI) :: dnL w a u R pv (f + i) t' rs' e') → h.IsList (a.U k) (List.toArray (u.su k)) := fun h u Nu => ⟨_, (Nu (suE a u k) (.tail _ (List.mem_append_left _ (.tail _ (.tail _ (.tail _ (by have := mem_su (a := a) (v := u) (r := []) he5; rwa [List.append_nil] at this))))))).1, rfl, _, rfl⟩
    have y10 := fun tk => Stt.of (s₀ := s) (tk := tk) (l := (I, oI) :: dnL w a v2 R pv (f + i) t' rs' e') sl7 ok7 F10 (by simp only [List.cons_append, List.append_assoc, List.nil_append]; exact N10) off8
    refine wpAny_pyIter_list (hlist _ v2 (y10 0).news) ?_
    obtain ⟨y11, hne2⟩ := (y10 _).push { cls := .type "list_iterator", data := .fields #[.ref (a.U k), .int 0 0] }
    dsimp only at y11 hne2
    revert y11 hne2
    generalize hJdef : Array.size (Heap.objs _) = II
    intro y11 hne2
    have hIIn : II ∉ nodesA a := fun hm => by
      rw [← nodesL_fst a v2] at hm
      obtain ⟨q, hq, e⟩ := List.mem_map.mp hm
      exact hne2 q (.tail _ (List.mem_append_left _ (.tail _ (.tail _ (.tail _ hq))))) e
    have hUI : a.U k ≠ II := fun e => hIIn (e ▸ (in_nodesA a he5).2)
    have w0 : @Ne Nat II I := fun e => hne2 (I, oI) (.head _) e.symm
    have w1 : @Ne Nat II R := fun e => hne2 (R, listOf (List.toArray rs') e') (.tail _ (List.mem_append_right _ (.head _))) e.symm
    have w2 : @Ne Nat II a.S := fun e => hne2 (a.S, instObj 144 a.dS) (.tail _ (.head _)) e.symm
    have w3 : @Ne Nat II a.dS := fun e => hne2 (a.dS, sDict w a v2 (.ref R) pv (.int (f + i) t')) (.tail _ (.tail _ (.head _))) e.symm
    have w4 : @Ne Nat II a.D := fun e => hne2 (a.D, v2.oD) (.tail _ (.tail _ (.tail _ (.head _)))) e.symm
    have hszs : (List.toArray (v2.su k)).size = (su k).length := by rw [List.size_toArray, hsuv, hsuk.length, List.length_map]
    refine Stt.forW (oI := { cls := .type "list_iterator", data := .fields #[.ref (a.U k), .int 0 0] }) (Walks.list rfl II (a.U k) hUI (List.toArray (v2.su k))) (fun i h x => let ⟨o, e, _⟩ := x.1; ⟨o, e⟩)
      (fun j m' l' => ∃ u rs2 e2, Same v u ∧ RelN u (((su k).take j).foldl relax (outOne σ' k)) ∧ IntsAre rs2 ((((su k).take j).foldl relax (outOne σ' k)).rd.map Int.ofNat) ∧ l' = (I, oI) :: dnL w a u R pv (f + i) t' rs2 e2 ∧
        m' (Str.ofString "self") = some (.ref a.S) ∧ m' (Str.ofString "n2i") = some (.ref a.D))
      y11 hne2 ?hst2 ?h02 ?hsrc2 ?turn2 ?done2 (fun _ => rfl)
    case hst2 => exact ⟨⟨_, (y11.news _ (.head _)).1, rfl, rfl⟩, hlist _ v2 (fun p hp => y11.news p (.tail _ hp))⟩
    case h02 => exact ⟨v2, rs', e', sm2, hn2, hrs', rfl, rfl, rfl⟩
    case hsrc2 =>
      intro b hb hbI
      have hb' : b = a.U k := by simpa [hbI] using hb
      subst hb'
      refine ⟨listOf (List.toArray (v2.su k)) (v2.eu k), ?_⟩
      rintro j m₁ l₁ s₁ oI' ⟨u, rs2, e2, smu, _, _, rfl, _⟩ y
      have this : s₁.heap.get? (a.U k) = some (listOf (List.toArray (u.su k)) (u.eu k)) := (y.news (suE a u k) (.tail _ (.tail _ (List.mem_append_left _ (.tail _ (.tail _ (.tail _ (by have := mem_su (a := a) (v := u) (r := []) he5; rwa [List.append_nil] at this)))))))).1
      rw [smu.su, smu.eu, ← sm2.su, ← sm2.eu] at this
      exact this
    case done2 =>
      rintro m' l' s' ⟨u, rs2, e2, smu, hnu, hrs2, rfl, msu, mnu⟩ hl' y'
      rw [hszs, List.take_length] at hnu hrs2
      refine hQ2 _ _ ?_
      clear hQ2
      dsimp only
      obtain ⟨h8, tk8, frs8, rfl, sl8, ok8, F8, N8, off9⟩ := y'
      rw [frame_as (m := m') [(Str.ofString "self", .ref a.S), (Str.ofString "n2i", .ref a.D)]
        (by simp only [List.forall_mem_cons]; exact ⟨msu, mnu, fun _ h => by cases h⟩)] at F8
      simp only [List.cons_append, List.append_assoc, List.nil_append] at N8
      have off10 := off9
      simp only [List.cons_append, List.map_cons, List.map_append, List.map_nil] at off9
      have odS : OffAt a.dS a ((R, listOf (List.toArray rs2) e2) :: frs8) := ⟨wf.odS, fun q hq => by
        rcases List.mem_cons.mp hq with rfl | hq
        · exact hRdS
        · exact off9 q hq _ (by simp)⟩
      refine exec_then fun Q3 hQ3 => ?_
      k_steps
      refine hQ3 _ _ ?_
      clear hQ3 Q3
      dsimp only
      rename Fr _ _ _ _ => F12
      rename News _ _ _ _ => N12
      obtain ⟨t13, N13⟩ : ∃ t13, News g' L _ ((I, oI) :: (a.S, instObj 144 a.dS) :: (a.dS, sDict w a u (.ref R) pv (.int (f + i + 1) t13)) :: (a.D, u.oD) :: (nodesL a u ++ (R, listOf (List.toArray rs2) e2) :: frs8)) := ⟨_, N12⟩
      have hfi : f + (i : Int) + 1 = f + ((i + 1 : Nat) : Int) := by push_cast; omega
      rw [hfi] at N13
      have y13 := fun tk => Stt.of (s₀ := s) (tk := tk) (l := (I, oI) :: dnL w a u R pv (f + ((i + 1 : Nat) : Int)) t13 rs2 e2) sl8 ok8 F12 (by simp only [List.cons_append, List.append_assoc, List.nil_append]; exact N13) off10
      have htk : (ks.take (i + 1)).foldl (doneOne su) σ = doneOne su σ' k := by
        rw [List.take_add_one, List.getElem?_eq_getElem hi, List.foldl_append, hσ, hk]; rfl
      refine wpAny_execs_nil (hQT .next _ ⟨_, _, ⟨u, t13, rs2, e2, smu, ?_, ?_, ?_, rfl, ?_, ?_⟩, ?_, y13 _⟩)
      · rw [htk]; exact hnu
      · rw [htk]; exact hrs2
      · rw [htk]
        have := relaxes_len (su k) (outOne σ' k)
        have e9 : (outOne σ' k).rd = σ'.rd := rfl
        rw [e9] at this
        show (List.foldl relax (outOne σ' k) (su k)).rd.length ≤ _
        omega
      · rfl
      · rfl
      · intro q hq
        rcases List.mem_append.mp hq with hq | hq
        · exact sort_ne (fun q hq => hl₁ q (List.mem_append_left _ hq)) q hq
        · rw [List.mem_singleton.mp hq]; exact Ne.symm hIR
    case turn2 =>
      rintro j val m₂ l₂ s₂ oJ hj hP2 ⟨u, rs2, e2, smu, hnu, hrs2, rfl, msu, mnu⟩ hl₂ y'
      refine turn_veil fun QU EQU hQU hEQU => ?_
      rw [hszs] at hj
      obtain ⟨ts, hts⟩ := hsuk.get j (Int.ofNat (su k)[j]) (by simp [hj])
      have hval : val = .int (Int.ofNat (su k)[j]) ts := by
        have hP' : (v2.su k)[j]? = some val := by simpa using hP2
        rw [hsuv, hts] at hP'; exact (Option.some.inj hP').symm
      subst hval
      have hs5 : (su k)[j] < 5 := hsu5 _ (List.getElem_mem hj)
      generalize hτ : ((su k).take j).foldl relax (outOne σ' k) = τ at hnu hrs2
      generalize hsj : (su k)[j] = sj at hs5 y'
      have wfu := smu.wf wf
      have hddu := wfu.d
      obtain ⟨tn2, hnp2⟩ := hnu sj hs5
      have hrl2 : τ.rd.length ≤ 800 := by
        have := relaxes_len ((su k).take j) (outOne σ' k)
        rw [hτ, List.length_take] at this
        have e9 : (outOne σ' k).rd = σ'.rd := rfl
        rw [e9] at this
        omega
      refine wpAny_assign_Name (y'.st (fun s₂ y₂ => ?_) rfl rfl)
      obtain ⟨h8, tk8, frs8, rfl, sl8, ok8, F8, N8, off9⟩ := y₂
      rw [frame_as (m := fun z => if z = Str.ofString "successor" then some (Value.int (Int.ofNat sj) ts) else m₂ z) [(Str.ofString "self", .ref a.S), (Str.ofString "n2i", .ref a.D), (Str.ofString "successor", .int (Int.ofNat sj) ts)]
        (by simp only [List.forall_mem_cons]; exact ⟨(if_neg (by decide)).trans msu, (if_neg (by decide)).trans mnu, (by first | exact if_pos rfl | exact if_pos trivial), fun _ h => by cases h⟩)] at F8
      simp only [List.cons_append, List.append_assoc, List.nil_append] at N8
      have off10 := off9
      simp only [List.cons_append, List.map_cons, List.map_append, List.map_nil] at off9
      have offR8 : ∀ q ∈ frs8, q.1 ≠ R := fun q hq => off9 q hq R (by simp)
      have offN8 : OffF a frs8 := fun q hq hm => off9 q hq q.1 (by simp only [List.mem_cons, List.mem_append]; exact .inr (.inr (.inr (.inr (.inr (.inl (by rw [nodesL_fst]; exact hm))))))) rfl
      have offF8 : OffF a ((R, listOf (List.toArray rs2) e2) :: frs8) := OffF.cons hRn offN8
      have x0 : @Ne Nat I (a.I sj) := fun e => hIn (e ▸ (in_nodesA a hs5).1)
      have x00 : @Ne Nat II (a.I sj) := fun e => hIIn (e ▸ (in_nodesA a hs5).1)
      have x1 : @Ne Nat a.S (a.I sj) := fun e => wf.oS (e ▸ (in_nodesA a hs5).1)
      have x2 : @Ne Nat a.dS (a.I sj) := fun e => wf.odS (e ▸ (in_nodesA a hs5).1)
      have x3 : @Ne Nat a.D (a.I sj) := fun e => wf.oD (e ▸ (in_nodesA a hs5).1)
      have hsz2 : rs2.toArray.size ≤ sizeLine := by rw [List.size_toArray, hrs2.length, List.length_map]; omega
      refine exec_then fun Q3 hQ3 => ?_
      k_steps
      refine ditem (intKind_is _ _ _ _) N8 (by k_mem) hddu (n2i_at a hs5) ?_ (by with_unfolding_all rfl)
      k_steps
      refine hQ3 _ _ ?_
      clear hQ3 Q3
      dsimp only
      refine exec_then fun Q3 hQ3 => ?_
      k_steps
      refine hQ3 _ _ ?_
      clear hQ3 Q3
      dsimp only
      rename Fr _ _ _ _ => F9
      rename News _ _ _ _ => N9
      obtain ⟨t9, N9'⟩ : ∃ t9, News g' L _ ((II, oJ) :: (I, oI) :: (a.S, instObj 144 a.dS) :: (a.dS, sDict w a u (.ref R) pv (.int (f + i) t')) :: (a.D, u.oD) :: (nodesL a (u.setNp sj (.int (τ.np sj - 1) t9)) ++ (R, listOf (List.toArray rs2) e2) :: frs8)) := ⟨_, N9⟩
      clear N9
      have smu2 : Same v (u.setNp sj (.int (τ.np sj - 1) t9)) := smu.trans (Same.np u sj _)
      have hnu2 : RelN (u.setNp sj (.int (τ.np sj - 1) t9)) (relax τ sj) := hnu.set
      have hnp3 : (u.setNp sj (.int (τ.np sj - 1) t9)).np sj = .int (τ.np sj - 1) t9 := by simp [SV.setNp]
      generalize hu2 : u.setNp sj (.int (τ.np sj - 1) t9) = u2 at smu2 hnu2 hnp3 N9'
      have eS2 : sDict w a u (.ref R) pv (.int (f + i) t') = sDict w a u2 (.ref R) pv (.int (f + i) t') := by rw [← hu2]; rfl
      have eD2 : u.oD = u2.oD := by rw [← hu2]; rfl
      rw [eS2, eD2] at N9'
      have htk2 : ((su k).take (j + 1)).foldl relax (outOne σ' k) = relax τ sj := by
        rw [List.take_add_one, List.getElem?_eq_getElem hj, List.foldl_append, hτ, hsj]; rfl
      have hmem : ∀ (e : Nat) (r : List Value), ∀ p ∈ (I, oI) :: dnL w a u2 R pv (f + i) t' r e, p.1 ≠ II := fun e r p hp => by
        rcases List.mem_cons.mp hp with rfl | hp
        · exact Ne.symm w0
        · rcases List.mem_append.mp hp with hp | hp
          · exact sort_ne (fun q hq => hl₂ q (.tail _ (List.mem_append_left _ hq))) p hp
          · rw [List.mem_singleton.mp hp]; exact Ne.symm w1
      refine wpAny_execs_cons (if_then fun Q3 hQ3 => ?_)
      k_steps
      refine hQ3 _ _ ?_
      clear hQ3 Q3
      rename Fr _ _ _ _ => F9b
      rename News _ _ _ _ => N9b
      by_cases hz : τ.np sj - 1 = 0
      · have hrd : (relax τ sj).rd = τ.rd ++ [sj] := if_pos hz
        rw [if_pos (by simp [hz])]
        refine exec_then fun Q3 hQ3 => ?_
        k_steps
        rename Fr _ _ _ _ => F9c
        rename News _ _ _ _ => N9c
        refine append_K F9c N9c (.tail (Ne.symm (Ne.symm w1)) (.tail hIR (.tail (Ne.symm hRS) (.tail (Ne.symm hRdS) (.tail (Ne.symm hRD) (upd_right (nodes_ne hRn) (.head offR8))))))) (fun h' F' N' => ?_) hsz2
        refine hQ3 _ _ ?_
        clear hQ3 Q3
        dsimp only
        rename Fr _ _ _ _ => F10
        rename News _ _ _ _ => N10
        rw [List.push_toArray] at N10
        have y10 := fun tk => Stt.of (s₀ := s) (tk := tk) (l := (II, oJ) :: (I, oI) :: dnL w a u2 R pv (f + i) t' (rs2 ++ [.int (Int.ofNat sj) ts]) (e2 + 1)) sl8 ok8 F10 (by simp only [List.cons_append, List.append_assoc, List.nil_append]; exact N10) off10
        refine wpAny_execs_nil (wpAny_execs_nil (hQU .next _ ⟨_, _, ⟨u2, rs2 ++ [.int (Int.ofNat sj) ts], e2 + 1, smu2, ?_, ?_, rfl, ?_, ?_⟩, hmem _ _, y10 _⟩))
        · rw [htk2]; exact hnu2
        · rw [htk2, hrd, List.map_append]; exact hrs2.append (.cons _ _ .nil)
        · rfl
        · rfl
      · have hrd : (relax τ sj).rd = τ.rd := if_neg hz
        rw [if_neg (by simp [hz])]
        have y10 := fun tk => Stt.of (s₀ := s) (tk := tk) (l := (II, oJ) :: (I, oI) :: dnL w a u2 R pv (f + i) t' rs2 e2) sl8 ok8 F9b (by simp only [List.cons_append, List.append_assoc, List.nil_append]; exact N9b) off10
        refine wpAny_execs_nil (wpAny_execs_nil (hQU .next _ ⟨_, _, ⟨u2, rs2, e2, smu2, ?_, ?_, rfl, ?_, ?_⟩, hmem _ _, y10 _⟩))
        · rw [htk2]; exact hnu2
        · rw [htk2, hrd]; exact hrs2
        · rfl
        · rfl
end Mine
end PartDone
end ShareA

section PartNextA
theorem Mine.anewNextA : True := by
  w_top off
  trivial
open PySem PySem.W PySem.Calls PyProof.Rows
set_option Elab.async false
set_option maxRecDepth 100000
set_option maxHeartbeats 4000000
namespace Mine
theorem li_slot_ga : Slot "list_iterator" "__getattribute__" "object.__getattribute__" :=
  .of (owner := "object") (n := "__getattribute__") (by rw [typeLookup_type, builtinLookup_eq_fast]; kernel_rfl) (by decide +kernel) (by decide +kernel) (by decide +kernel)
    (by first | exact .inl (by decide +kernel) | exact .inr (by decide +kernel)) (by rw [isSubtype_type]; kernel_rfl)
theorem li_args_ga (a b : Value) : argsOk "object.__getattribute__" ⟨[a, b], []⟩ := by unfold argsOk; kernel_rfl
theorem li_entry_ga : entryFor table "object.__getattribute__" = some Builtin.«object.__getattribute__» := entryFor_of_tree (by kernel_rfl)
theorem li_lk_next : typeLookup (.type "list_iterator") "__next__" = pure (some (.builtin "list_iterator.__next__")) := by rw [typeLookup_type, builtinLookup_eq_fast]; kernel_rfl
theorem li_typeOf_next : typeOf (.builtin "list_iterator.__next__") = pure (.type "wrapper_descriptor") := by show builtinType _ = _; rw [builtinType_eq_fast]; kernel_rfl
theorem wd_slot_get : Slot "wrapper_descriptor" "__get__" "wrapper_descriptor.__get__" :=
  .of (owner := "wrapper_descriptor") (n := "__get__") (by rw [typeLookup_type, builtinLookup_eq_fast]; kernel_rfl) (by decide +kernel) (by decide +kernel) (by decide +kernel)
    (by first | exact .inl (by decide +kernel) | exact .inr (by decide +kernel)) (by rw [isSubtype_type]; kernel_rfl)
theorem wd_noset : typeLookup (.type "wrapper_descriptor") "__set__" = pure none := by rw [typeLookup_type, builtinLookup_eq_fast]; kernel_rfl
theorem wd_nodel : typeLookup (.type "wrapper_descriptor") "__delete__" = pure none := by rw [typeLookup_type, builtinLookup_eq_fast]; kernel_rfl
theorem wd_entry_get : entryFor table "wrapper_descriptor.__get__" = some Builtin.«wrapper_descriptor.__get__» := entryFor_of_tree (by kernel_rfl)
theorem wd_args_get (a b c : Value) : argsOk "wrapper_descriptor.__get__" ⟨[a, b, c], []⟩ := by unfold argsOk; kernel_rfl

theorem li_owner : (".".intercalate ("list_iterator.__next__".cutAt '.').dropLast) = "list_iterator" := by
  have e0 : "list_iterator.__next__".cutAt '.' = ["list_iterator", "__next__"] := by first | rfl | decide +kernel
  rw [e0]; decide +kernel
theorem li_sub : isSubtype (.type "list_iterator") (.type (".".intercalate ("list_iterator.__next__".cutAt '.').dropLast)) = pure true := by
  rw [li_owner, isSubtype_type]; kernel_rfl

noncomputable abbrev mwObj (it : Addr) : Obj := { cls := .type "method-wrapper", data := .fields #[.builtin "list_iterator.__next__", .ref it] }

section
variable {prog : Program} {w : World} {A : Around} {E : Value → Shared → Prop} {h : Heap} {g : Array GenState} {d : Drawn} {t : Nat} {os : OsState} {a : Addr} {o : Obj}
theorem next_get {R : Result → Shared → Prop} (hx : h.get? a = some o) (hc : o.cls = .type "list_iterator") (hq : R (.ok (.ret (.ref h.objs.size))) ⟨h.push (mwObj a), g, d, t, os⟩) :
    codeAny (model prog w) A (.call (.builtin "wrapper_descriptor.__get__") ⟨[.builtin "list_iterator.__next__", .ref a, .type "list_iterator"], []⟩) R ⟨h, g, d, t, os⟩ := by
  have hT : (⟨h, g, d, t, os⟩ : Shared).TypeIs (.ref a) "list_iterator" := ⟨_, hx, hc⟩
  have hT5 : (⟨h, g, d, t, os⟩ : Shared).TypeIs (.builtin "list_iterator.__next__") "wrapper_descriptor" := li_typeOf_next
  refine codeAny_call_builtin wd_slot_get.plain wd_entry_get (wd_slot_get.check _ _ _ _ _ _ _ _ hT5 (wd_args_get _ _ _) ?_)
  have f8 := li_sub
  repeat (any_goals (first | assumption | wp_step))

theorem next_entry {vs : Array Value} {tk : Tok} {Q : Fin → Shared → Prop} (hx : h.get? a = some { cls := .type "list_iterator", data := .fields vs }) (hq : Q (.done (.ret (.ref h.objs.size))) ⟨h.push (mwObj a), g, d, t, os⟩) :
    wpAny (model prog w) A (Builtin.«object.__getattribute__» ⟨[.ref a, .str (Str.ofString "__next__") tk], []⟩) Q E ⟨h, g, d, t, os⟩ := by
  have hT : (⟨h, g, d, t, os⟩ : Shared).TypeIs (.ref a) "list_iterator" := ⟨_, hx, rfl⟩
  have hT5 : (⟨h, g, d, t, os⟩ : Shared).TypeIs (.builtin "list_iterator.__next__") "wrapper_descriptor" := li_typeOf_next
  have f4 := li_lk_next
  have f5 := li_typeOf_next
  have f6 := wd_slot_get.lookup
  have f7 := wd_noset
  have f9 := wd_nodel
  repeat (any_goals (first | assumption | wp_step))
  refine next_get hx rfl ?_
  repeat (any_goals (first | assumption | wp_step))
end
end Mine
end PartNextA

section PartNextB
theorem Mine.anewNextB : True := by
  w_top off
  trivial
open PySem PySem.W PySem.Calls PyProof.Rows
set_option Elab.async false
set_option maxRecDepth 100000
set_option maxHeartbeats 4000000
namespace Mine
noncomputable abbrev liObj (l : Addr) (i : Nat) : Obj := { cls := .type "list_iterator", data := .fields #[.ref l, .int (i : Int) 0] }
noncomputable abbrev liEnd (i : Nat) : Obj := { cls := .type "list_iterator", data := .fields #[.none, .int (i : Int) 0] }
section
variable {prog : Program} {w : World} {A : Around} {E : Value → Shared → Prop} {h : Heap} {g : Array GenState} {d : Drawn} {t : Nat} {os : OsState} {a : Addr} {vs : Array Value}
theorem next_ga {tk : Tok} {R : Result → Shared → Prop} (hx : h.get? a = some { cls := .type "list_iterator", data := .fields vs }) (hq : R (.ok (.ret (.ref h.objs.size))) ⟨h.push (mwObj a), g, d, t, os⟩) :
    codeAny (model prog w) A (.call (.builtin "object.__getattribute__") ⟨[.ref a, .str (Str.ofString "__next__") tk], []⟩) R ⟨h, g, d, t, os⟩ :=
  codeAny_call_builtin li_slot_ga.plain li_entry_ga (li_slot_ga.check _ _ _ _ _ _ _ _ (show (⟨h, g, d, t, os⟩ : Shared).TypeIs (.ref a) "list_iterator" from ⟨_, hx, rfl⟩) (li_args_ga _ _) (next_entry hx hq))

theorem next_by {tk : Tok} {fill ex : Bool} {Q : Value → Shared → Prop} (hx : h.get? a = some { cls := .type "list_iterator", data := .fields vs }) (hq : Q (.ref h.objs.size) ⟨h.push (mwObj a), g, d, t, os⟩) : wpAny (model prog w) A (getAttrBy (.ref a) (.str (Str.ofString "__next__") tk) fill ex) Q E ⟨h, g, d, t, os⟩ := by
  have hT : (⟨h, g, d, t, os⟩ : Shared).TypeIs (.ref a) "list_iterator" := ⟨_, hx, rfl⟩
  have f2 := li_slot_ga.lookup
  have f3 := li_slot_ga.bind (.ref a)
  repeat (any_goals (first | assumption | wp_step))
  rw [if_neg (show ¬ ((ex && onTheHeap (Value.builtin "object.__getattribute__")) = true) by cases ex <;> decide)]
  repeat (any_goals (first | assumption | wp_step))
  refine next_ga hx ?_
  repeat (any_goals (first | assumption | wp_step))

theorem next_attr {ex : Bool} {Q : Value → Shared → Prop} (hx : h.get? a = some { cls := .type "list_iterator", data := .fields vs }) (hq : Q (.ref h.objs.size) ⟨h.push (mwObj a), g, d, t + 1, os⟩) : wpAny (model prog w) A (getAttr (.ref a) (Str.ofString "__next__") ex) Q E ⟨h, g, d, t, os⟩ := by
  unfold getAttr
  repeat (any_goals (first | assumption | with_reducible apply next_by hx | wp_step))
end

section
variable {prog : Program} {w : World} {A : Around} {E : Value → Shared → Prop} {s : Shared}
theorem mw_check {it : Addr} : checkBoundCall "list_iterator.__next__" ⟨[.ref it], []⟩ = pure () := by first | kernel_rfl | rfl
theorem li_quiet {it : Addr} : Code.quiet (.builtin "list_iterator.__next__" ⟨[.ref it], []⟩) = true := Code.quiet_builtin _ (by decide +kernel)

theorem mw_call {x it : Addr} {Q : Value → Shared → Prop} (ho : s.heap.get? x = some (mwObj it)) (h : wpAny (model prog w) A.in1 (Builtin.«list_iterator.__next__» ⟨[.ref it], []⟩) (fun r s' => ∃ v, r = .done (.ret v) ∧ Q v s') E s) :
    wpAny (model prog w) A (call (.ref x) []) Q E s := by
  refine wpAny_call (codeAny_of_tree ?_)
  show wpAny _ A.in1 (callAny (.ref x) ⟨[], []⟩) _ _ s
  simp only [callAny]
  refine wpAny_bind (wpAny_load ho ?_)
  simp only [show (Value.type "method-wrapper" == Value.type "method" || Value.type "method-wrapper" == Value.type "builtin_function_or_method" || Value.type "method-wrapper" == Value.type "method-wrapper") = true by decide, if_true]
  refine KFB.if_so (by decide) ?_
  refine wpAny_bind (wpAny_of_eq (a := ()) mw_check ?_)
  refine wpAny_bind (wpAny_pure (wpAny_pure ?_))
  refine ⟨li_quiet, codeAny_builtin entry_listiter_next (wpAny_mono h (fun r s' hr => ?_) fun _ _ z => z)⟩
  obtain ⟨v, rfl, hv⟩ := hr
  exact hv

theorem mw_item {x it l : Addr} {i : Nat} {items : Array Value} {v : Value} {Q : Value → Shared → Prop} (ho : s.heap.get? x = some (mwObj it)) (hi : s.heap.get? it = some (liObj l i)) (hl : s.heap.IsList l items) (hx : items[i]? = some v)
    (h : ∀ h', h'.get? it = some (liObj l (i + 1)) → (∀ b o, b ∉ [it] → s.heap.get? b = some o → h'.get? b = some o) → h'.objs.size = s.heap.objs.size → Q v { s with heap := h' }) :
    wpAny (model prog w) A (call (.ref x) []) Q E s := by
  refine mw_call ho ?_
  obtain ⟨ol, hol, _, nl, hdl⟩ := hl
  show wpAny _ _ (field (.ref it) 0 >>= _) _ _ s
  refine wpAny_bind (wpAny_field hi rfl (x := .ref l) rfl ?_)
  show wpAny _ _ (if (Value.ref l == Value.none) = true then _ else _) _ _ s
  rw [if_neg (show ¬ ((Value.ref l == Value.none) = true) from Bool.false_ne_true)]
  show wpAny _ _ (field (.ref it) 1 >>= _) _ _ s
  refine wpAny_bind (wpAny_field hi rfl (x := .int i 0) rfl ?_)
  show wpAny _ _ (seqItems? (.ref l) >>= _) _ _ s
  refine wpAny_bind (wpAny_seqItems hol hdl ?_)
  simp only [Int.toNat_natCast, hx]
  refine wpAny_bind (wpAny_setField hi rfl (by simp) (wpAny_pure ⟨v, rfl, h _ ?_ ?_ (Heap.size_after_update ..)⟩))
  · exact Heap.get?_update_self _ hi rfl
  · intro b o hb e
    exact (Heap.get?_update_ne _ _ _ _ (fun q => hb (by simp [q]))).trans e

theorem mw_end {x it l : Addr} {i : Nat} {items : Array Value} {Q : Value → Shared → Prop} (hh : A.handled = none) (ho : s.heap.get? x = some (mwObj it)) (hi : s.heap.get? it = some (liObj l i)) (hl : s.heap.IsList l items) (hx : items[i]? = none)
    (h : ∀ h' e, h'.get? it = some (liEnd i) → (∀ b o, b ∉ [it] → s.heap.get? b = some o → h'.get? b = some o) → s.heap.objs.size ≤ h'.objs.size → ExcNew s.heap.objs.size h' e "StopIteration" .none → E (.ref e) { s with heap := h' }) :
    wpAny (model prog w) A (call (.ref x) []) Q E s := by
  refine mw_call ho ?_
  obtain ⟨ol, hol, _, nl, hdl⟩ := hl
  show wpAny _ _ (field (.ref it) 0 >>= _) _ _ s
  refine wpAny_bind (wpAny_field hi rfl (x := .ref l) rfl ?_)
  show wpAny _ _ (if (Value.ref l == Value.none) = true then _ else _) _ _ s
  rw [if_neg (show ¬ ((Value.ref l == Value.none) = true) from Bool.false_ne_true)]
  show wpAny _ _ (field (.ref it) 1 >>= _) _ _ s
  refine wpAny_bind (wpAny_field hi rfl (x := .int i 0) rfl ?_)
  show wpAny _ _ (seqItems? (.ref l) >>= _) _ _ s
  refine wpAny_bind (wpAny_seqItems hol hdl ?_)
  simp only [Int.toNat_natCast, hx]
  refine wpAny_bind (wpAny_rule (wpAny_bind (wpAny_setField hi rfl (by simp) ?_)))
  have hlt := Heap.lt_size hi
  have hu : (s.heap.update it (Obj.mapFields fun x => x.setIfInBounds 0 Value.none)).get? it = some (liEnd i) := Heap.get?_update_self _ hi rfl
  have ho : ∀ b o, b ∉ [it] → s.heap.get? b = some o → (s.heap.update it (Obj.mapFields fun x => x.setIfInBounds 0 Value.none)).get? b = some o := fun b o hb e => (Heap.get?_update_ne _ _ _ _ (fun q => hb (by simp [q]))).trans e
  show wpAny _ _ (newExc (.type "StopIteration") [] >>= _) _ _ _
  refine wpAny_bind ?_
  simp only [newExc, newTuple]
  refine wpAny_bind (wpAny_newObj_type ?_ (by size_fits))
  refine wpAny_bind (m := firstArgMember _ _) (wpAny_of_eq (a := Value.none) (by first | rfl | (simp only [firstArgMember]; rfl)) ?_)
  refine wpAny_newObj_type ?_ (by size_fits)
  simp only [raiseNew]
  refine wpAny_bind (wpAny_handled ?_)
  rw [show A.in1.handled = none from hh]
  refine wpAny_bind (wpAny_pure (wpAny_throw ?_))
  have hsz : (s.heap.update it (Obj.mapFields fun x => x.setIfInBounds 0 Value.none)).objs.size = s.heap.objs.size := Heap.size_after_update ..
  refine h _ _ (Heap.get?_push_of_some _ (Heap.get?_push_of_some _ hu)) (fun b o hb e => Heap.get?_push_of_some _ (Heap.get?_push_of_some _ (ho b o hb e))) (by rw [push_size, push_size, hsz]; omega) ⟨_, _, ?_, Heap.get?_push_size _ rfl, rfl, rfl, ?_, ?_⟩
  · rw [push_size, hsz]; exact Nat.le_succ _
  · rw [Array.getElem?_append_left (by simp)]; rfl
  · rw [Array.getElem?_append_left (by simp)]; rfl
end
end Mine
end PartNextB

section PartFc0
theorem Mine.anewFc0 : True := by
  w_top off
  trivial
open PySem PySem.W PySem.Calls PyProof.Rows
set_option Elab.async false
set_option maxRecDepth 100000
set_option maxHeartbeats 4000000
namespace Mine

theorem turn_news {h₀ h h' : Heap} {L d : Addr} {m : Str → Option Value} {news news' : List (Addr × Obj)} {o o' : Obj} (F : Fr h₀ L h m) (N : News h₀ L h news) (U : Upd d o o' news news')
    (k : ∀ b o, b ≠ d → h.get? b = some o → h'.get? b = some o) (e : h'.get? d = some o') : Fr h₀ L h' m ∧ News h₀ L h' news' := by
  obtain ⟨pre, post, rfl, rfl, a, c⟩ := U.split
  have NI := N (d, o) (List.mem_append_right _ (.head _))
  obtain ⟨oL, es, ep, hL, r⟩ := F.ns
  refine ⟨⟨⟨oL, es, ep, k _ _ (Ne.symm NI.2.1) hL, r⟩, fun b o q => k b o (fun q' => ?_) (F.keep b o q), F.above⟩, fun p hp => ?_⟩
  · rw [q', NI.2.2] at q; cases q
  · rcases List.mem_append.mp hp with hp | hp
    · have P := N p (List.mem_append_left _ hp)
      exact ⟨k _ _ (a p hp) P.1, P.2⟩
    · rcases List.mem_cons.mp hp with rfl | hp
      · exact ⟨e, NI.2⟩
      · have P := N p (List.mem_append_right _ (.tail _ hp))
        exact ⟨k _ _ (c p hp) P.1, P.2⟩

section
variable {g : Heap} {L : Addr} {outer : List Env} {frs0 l l' : List (Addr × Obj)} {s₀ s : Shared} {m : Str → Option Value}
theorem upd_fst {d : Addr} {o o' : Obj} (U : Upd d o o' l l') : l'.map (·.1) = l.map (·.1) := by
  obtain ⟨pre, post, rfl, rfl, a, c⟩ := U.split
  simp
theorem upd_in {d : Addr} {o o' : Obj} (U : Upd d o o' l l') : (d, o) ∈ l := by
  obtain ⟨pre, post, rfl, rfl, a, c⟩ := U.split
  exact List.mem_append_right _ (.head _)
/-- one entry of the ledger turned -/
theorem Stt.turnU {d : Addr} {o o' : Obj} {h' : Heap} {tk : Nat} (x : Stt g L outer frs0 s₀ m l s) (U : Upd d o o' l l') (k : ∀ b o, b ≠ d → s.heap.get? b = some o → h'.get? b = some o) (e : h'.get? d = some o') :
    Stt g L outer frs0 s₀ m l' { s with heap := h', toks := tk } := by
  obtain ⟨h, tk', frs, rfl, sl, ok, F, N, off⟩ := x
  have U' := upd_app (r := frs) U fun p hp => off p hp d (List.mem_map_of_mem (upd_in U))
  obtain ⟨F', N'⟩ := turn_news F N U' k e
  exact ⟨h', tk, frs, rfl, sl, ok, F', N', by rw [upd_fst U]; exact off⟩
end

/-- a set object of ints -/
def SetO (w : World) (o : Obj) (S : Int → Bool) (n : Nat) : Prop :=
  ∃ es ep t, o.ExactSet ∧ o.data = .set es ep t ∧ ElemsOf (intKind PG w) es.toList ∧ (∀ k, S k = true ↔ ∃ e ∈ es.toList, (intKind PG w).is k e.2 = true) ∧ es.size < scanBound ∧ t.fits es.size = true ∧ es.size = n
theorem SetO.at {w : World} {o : Obj} {S : Int → Bool} {n : Nat} {h : Heap} {a : Addr} (x : SetO w o S n) (e : h.get? a = some o) : h.SetOf (intKind PG w) a S n :=
  let ⟨es, ep, t, r⟩ := x; ⟨o, es, ep, t, e, r⟩
theorem SetO.of {w : World} {S : Int → Bool} {n : Nat} {h : Heap} {a : Addr} (x : h.SetOf (intKind PG w) a S n) : ∃ o, h.get? a = some o ∧ SetO w o S n :=
  let ⟨o, es, ep, t, e, r⟩ := x; ⟨o, e, es, ep, t, r⟩

section
variable {w : World} {A : Around} {E : Value → Shared → Prop} {s : Shared} {h₀ : Heap} {L d : Addr} {m : Str → Option Value} {news : List (Addr × Obj)} {o : Obj}
  {u : Obj → List (Addr × Obj)} {k : Int} {t : Tok}
theorem in_set {S : Int → Bool} {n : Nat} {Q : Value → Shared → Prop} (N : News h₀ L s.heap news) (hm : (d, o) ∈ news) (hS : SetO w o S n) (h : Q (.bool (S k)) { s with toks := s.toks + 1 }) :
    wpAny (model PG w) A (compareOp .In (.int k t) (.ref d)) Q E s :=
  wpAny_inSet_of (intKind_is _ _ _ _) rfl (hS.at (N _ hm).1) h
theorem sadd_method {S : Int → Bool} {n : Nat} {pl : Sem Bool} {Q : Value × List Value → Shared → Prop} (N : News h₀ L s.heap news) (hm : (d, o) ∈ news) (hS : SetO w o S n) (h : Q (.builtin "set.add", [.ref d]) s) :
    wpAny (model PG w) A (getMethod (.ref d) (Str.ofString "add") pl) Q E s :=
  getMethod_set_add (hS.at (N _ hm).1) h
theorem sadd_call {S : Int → Bool} {n : Nat} {Q : Value → Shared → Prop} (F : Fr h₀ L s.heap m) (N : News h₀ L s.heap news) (U : UpdF d o news u) (hS : SetO w o S n) (hn : n < 100)
    (h : ∀ h' o', Fr h₀ L h' m → News h₀ L h' (u o') → SetO w o' (fun k' => S k' || decide (k' = k)) (if S k then n else n + 1) → Q .none { s with heap := h', toks := s.toks + 1 }) :
    wpAny (model PG w) A (call (.builtin "set.add") [.ref d, .int k t]) Q E s := by
  obtain ⟨pre, post, rfl, hu, a, c⟩ := U.split
  have hm : (d, o) ∈ pre ++ (d, o) :: post := List.mem_append_right _ (.head _)
  refine call_set_add (intKind_is _ _ _ _) rfl (hS.at (N _ hm).1) (Nat.lt_of_le_of_lt (Nat.succ_le_of_lt hn) (by decide)) fun h' hsb hS' => ?_
  obtain ⟨o', e', hO⟩ := SetO.of hS'
  obtain ⟨F', N'⟩ := turn_news F N (o' := o') (news' := pre ++ (d, o') :: post) (upd_right a (.head c)) (fun b o hb e => hsb.extBut b o hb e) e'
  exact h h' o' F' (by rw [hu]; exact N') hO
theorem in_dict {kvs : List (Int × Value)} {Q : Value → Shared → Prop} (N : News h₀ L s.heap news) (hm : (d, o) ∈ news) (hd : o.IsDictOf (intKind PG w) kvs) (lo : (d == sysModules) = false) (h : Q (.bool (valueAt kvs k).isSome) { s with toks := s.toks + 1 }) :
    wpAny (model PG w) A (compareOp .In (.int k t) (.ref d)) Q E s :=
  wpAny_in_of (intKind_is _ _ _ _) lo (dmap N hm hd) h
theorem dset_K {kvs : List (Int × Value)} {v : Value} {Q : Unit → Shared → Prop} (F : Fr h₀ L s.heap m) (N : News h₀ L s.heap news) (U : UpdF d o news u) (hd : o.IsDictOf (intKind PG w) kvs) (hn : kvs.length ≤ sizeLine)
    (h : ∀ h' o', Fr h₀ L h' m → News h₀ L h' (u o') → o'.IsDictOf (intKind PG w) (stored kvs k v) → Q () { s with heap := h', toks := s.toks + 1 }) :
    wpAny (model PG w) A (setItem (.ref d) (.int k t) v) Q E s := by
  obtain ⟨pre, post, rfl, hu, a, c⟩ := U.split
  have hm : (d, o) ∈ pre ++ (d, o) :: post := List.mem_append_right _ (.head _)
  refine wpAny_setItem_pairs (intKind_is _ _ _ _) (Heap.dictOf_iff.mpr ⟨o, (N _ hm).1, hd⟩) (fun h' hD hsb => ?_) hn
  obtain ⟨o', e', hO⟩ := Heap.dictOf_iff.mp hD
  obtain ⟨F', N'⟩ := turn_news F N (o' := o') (news' := pre ++ (d, o') :: post) (upd_right a (.head c)) (fun b o hb e => hsb.extBut b o hb e) e'
  exact h h' o' F' (by rw [hu]; exact N') hO
theorem ddel_K {kvs : List (Int × Value)} {Q : Unit → Shared → Prop} (F : Fr h₀ L s.heap m) (N : News h₀ L s.heap news) (U : UpdF d o news u) (hd : o.IsDictOf (intKind PG w) kvs) (hn : kvs.length ≤ sizeLine) (hk : (valueAt kvs k).isSome = true)
    (h : ∀ h' o', Fr h₀ L h' m → News h₀ L h' (u o') → o'.IsDictOf (intKind PG w) (without kvs k) → Q () { s with heap := h', toks := s.toks + 1 }) :
    wpAny (model PG w) A (delItem (.ref d) (.int k t)) Q E s := by
  obtain ⟨pre, post, rfl, hu, a, c⟩ := U.split
  have hm : (d, o) ∈ pre ++ (d, o) :: post := List.mem_append_right _ (.head _)
  have hD0 := Heap.dictOf_iff.mpr ⟨o, (N _ hm).1, hd⟩
  refine wpAny_delItem_slot hD0.typeIs (by decide) PySem.F.slot_dict_delitem ?_
  refine call_meetsIn PySem.F.slot_dict_delitem hD0.typeIs PySem.F.entry_dict_delitem (PySem.F.args_dict_delitem_2 _ _) (meets_dict_delitem_pairs (intKind PG w) d (intKind_is _ _ _ _)) ⟨kvs, hD0, hn, hk, fun h' hD hsb => ?_⟩
  obtain ⟨o', e', hO⟩ := Heap.dictOf_iff.mp hD
  obtain ⟨F', N'⟩ := turn_news F N (o' := o') (news' := pre ++ (d, o') :: post) (upd_right a (.head c)) (fun b o hb e => hsb.extBut b o hb e) e'
  exact h h' o' F' (by rw [hu]; exact N') hO
end
end Mine
end PartFc0

section PartFc1
theorem Mine.anewFc1 : True := by
  w_top off
  trivial
open PySem PySem.W PySem.Calls PyProof.Rows
set_option Elab.async false
set_option maxRecDepth 100000
set_option maxHeartbeats 4000000
namespace Mine

theorem InstAt.of_fz {h₀ h : Heap} {L x C dx : Addr} {m : Str → Option Value} {od : Obj} {sl : Array (Option Value)} (F : Fr h₀ L h m) (h1 : h₀.get? x = some ⟨.ref C, some dx, .plain, sl⟩) (h2 : h₀.get? dx = some od) :
    InstAt h x ⟨.ref C, some dx, .plain, sl⟩ C (some od) := ⟨F.keep _ _ h1, rfl, rfl, F.keep _ _ h2⟩

/-- the sorter stands frozen -/
def Fz (w : World) (a : SA) (v : SV) (rd pv fv : Value) (g : Heap) : Prop := ∀ p ∈ sortL w a v rd pv fv, g.get? p.1 = some p.2

/-- a level of the stack -/
structure Lev where
  n : Nat
  mw : Addr
  it : Addr
  pos : Nat
noncomputable def levL (a : SA) (lev : List Lev) : List (Addr × Obj) := lev.flatMap fun v => [(v.mw, mwObj v.it), (v.it, liObj (a.U v.n) v.pos)]
theorem levL_snoc (a : SA) (lev : List Lev) (x : Lev) : levL a (lev ++ [x]) = levL a lev ++ [(x.mw, mwObj x.it), (x.it, liObj (a.U x.n) x.pos)] := by simp [levL]

/-- what is still to come -/
noncomputable def wt1 (su : Nat → List Nat) (S : Int → Bool) (i : Nat) : Nat := if S (Int.ofNat i) then 0 else (su i).length + 2
noncomputable def wt (su : Nat → List Nat) (S : Int → Bool) : Nat := wt1 su S 0 + wt1 su S 1 + wt1 su S 2 + wt1 su S 3 + wt1 su S 4
noncomputable def un1 (S : Int → Bool) (i : Nat) : Nat := if S (Int.ofNat i) then 0 else 1
noncomputable def un (S : Int → Bool) : Nat := un1 S 0 + un1 S 1 + un1 S 2 + un1 S 3 + un1 S 4
noncomputable def wl (su : Nat → List Nat) (lev : List Lev) : Nat := (lev.map fun v => (su v.n).length - v.pos + 1).sum
noncomputable def ad (S : Int → Bool) (k : Int) : Int → Bool := fun k' => S k' || decide (k' = k)
theorem wt_add {su : Nat → List Nat} {S : Int → Bool} {k : Nat} (hk : k < 5) (hS : S (Int.ofNat k) = false) : wt su (ad S (Int.ofNat k)) + (su k).length + 2 = wt su S := by
  have h : ∀ i : Nat, wt1 su (ad S (Int.ofNat k)) i = if i = k then 0 else wt1 su S i := fun i => by
    unfold wt1 ad
    by_cases e : i = k
    · subst e; simp
    · have : ¬ (Int.ofNat i = Int.ofNat k) := fun q => e (Int.ofNat.inj q)
      rw [if_neg e, decide_eq_false this, Bool.or_false]
  unfold wt
  rw [h 0, h 1, h 2, h 3, h 4]
  have hk0 : wt1 su S k = (su k).length + 2 := by unfold wt1; rw [hS]; rfl
  match k, hk with
  | 0, _ => simp only [reduceIte, hk0]; simp; omega
  | 1, _ => simp [hk0]; omega
  | 2, _ => simp [hk0]; omega
  | 3, _ => simp [hk0]; omega
  | 4, _ => simp [hk0]; omega
theorem un_add {S : Int → Bool} {k : Nat} (hk : k < 5) (hS : S (Int.ofNat k) = false) : un (ad S (Int.ofNat k)) + 1 = un S := by
  have h : ∀ i : Nat, un1 (ad S (Int.ofNat k)) i = if i = k then 0 else un1 S i := fun i => by
    unfold un1 ad
    by_cases e : i = k
    · subst e; simp
    · have : ¬ (Int.ofNat i = Int.ofNat k) := fun q => e (Int.ofNat.inj q)
      rw [if_neg e, decide_eq_false this, Bool.or_false]
  unfold un
  rw [h 0, h 1, h 2, h 3, h 4]
  have hk0 : un1 S k = 1 := by unfold un1; rw [hS]; rfl
  match k, hk with
  | 0, _ => simp [hk0]; omega
  | 1, _ => simp [hk0]; omega
  | 2, _ => simp [hk0]; omega
  | 3, _ => simp [hk0]; omega
  | 4, _ => simp [hk0]
theorem wl_snoc (su : Nat → List Nat) (lev : List Lev) (x : Lev) : wl su (lev ++ [x]) = wl su lev + ((su x.n).length - x.pos + 1) := by simp [wl]

theorem updF_l {l frs pre post : List (Addr × Obj)} {d : Addr} {o : Obj} (h : l = pre ++ (d, o) :: post) (nd : (l.map (·.1)).Nodup) (off : OwnOff frs (l.map (·.1))) : UpdF d o (l ++ frs) (fun o' => pre ++ (d, o') :: (post ++ frs)) := by
  subst h
  have hn : ((pre.map (·.1)) ++ d :: (post.map (·.1))).Nodup := by simpa using nd
  obtain ⟨h1, h2⟩ := nodup_split hn
  have h3 : ∀ p ∈ frs, p.1 ≠ d := fun p hp => off p hp d (by simp)
  have h4 : ∀ p ∈ post ++ frs, p.1 ≠ d := fun p hp => by
    rcases List.mem_append.mp hp with hp | hp
    · exact h2 _ (List.mem_map_of_mem hp)
    · exact h3 p hp
  have h5 : ∀ p ∈ pre, p.1 ≠ d := fun p hp => h1 _ (List.mem_map_of_mem hp)
  clear hn nd off h1 h2
  rw [List.append_assoc]
  induction pre with
  | nil => exact .head h4
  | cons p r ih => exact .tail (h5 p (.head _)) (ih fun q hq => h5 q (.tail _ hq))
theorem UpdF.toUpd {l : List (Addr × Obj)} {u : Obj → List (Addr × Obj)} {d : Addr} {o : Obj} (U : UpdF d o l u) (o' : Obj) : Upd d o o' l (u o') := by
  obtain ⟨pre, post, rfl, hu, a, c⟩ := U.split
  rw [hu]; exact upd_right a (.head c)

/-- the walk's state -/
structure FcS (w : World) (a : SA) (su : Nat → List Nat) (rk : Nat → Nat) (nd sn itk stk : Addr) (S : Int → Bool) (lev : List Lev) (oD oS : Obj) (eI eS : Nat) (ts : List Value) (kvs : List (Int × Value)) (n : Nat) : Prop where
  ts : IntsAre ts (lev.map fun v => Int.ofNat v.n)
  d : oD.IsDictOf (intKind PG w) kvs
  ks : kvs.map (·.1) = lev.map fun v => Int.ofNat v.n
  s : SetO w oS S n
  un : n + un S = 5
  up : (lev.map fun v => rk v.n).Pairwise (· < ·)
  lev : ∀ v ∈ lev, v.n < 5 ∧ v.pos ≤ (su v.n).length ∧ S (Int.ofNat v.n) = true
noncomputable abbrev fcL (a : SA) (nd sn itk stk : Addr) (lev : List Lev) (oD oS : Obj) (eI eS : Nat) (ts : List Value) : List (Addr × Obj) :=
  (nd, oD) :: (sn, oS) :: (itk, listOf (List.toArray (lev.map fun v => Value.ref v.mw)) eI) :: (stk, listOf (List.toArray ts) eS) :: levL a lev

structure FcM (a : SA) (nd sn itk stk : Addr) (m : Str → Option Value) : Prop where
  n2i : m (Str.ofString "n2i") = some (.ref a.D)
  stack : m (Str.ofString "stack") = some (.ref stk)
  itstack : m (Str.ofString "itstack") = some (.ref itk)
  seen : m (Str.ofString "seen") = some (.ref sn)
  n2s : m (Str.ofString "node2stacki") = some (.ref nd)
theorem FcM.put {a : SA} {nd sn itk stk : Addr} {m : Str → Option Value} (x : FcM a nd sn itk stk m) (v : Value) : FcM a nd sn itk stk (fun z => if z = Str.ofString "node" then some v else m z) :=
  ⟨(if_neg (by decide)).trans x.n2i, (if_neg (by decide)).trans x.stack, (if_neg (by decide)).trans x.itstack, (if_neg (by decide)).trans x.seen, (if_neg (by decide)).trans x.n2s⟩

/-- within the inner while -/
inductive FcI2 (w : World) (g : Heap) (L : Addr) (outer : List Env) (frs : List (Addr × Obj)) (s₀ : Shared) (a : SA) (su : Nat → List Nat) (rk : Nat → Nat) (nd sn itk stk I : Addr) (oI : Obj) (N : Nat) (s' : Shared) : Prop
  | mk (S : Int → Bool) (lev : List Lev) (oD oS : Obj) (eI eS : Nat) (ts : List Value) (kvs : List (Int × Value)) (n : Nat) (m : Str → Option Value) (e : N = wt su S + wl su lev) (fc : FcS w a su rk nd sn itk stk S lev oD oS eI eS ts kvs n) (hnd : (((I, oI) :: fcL a nd sn itk stk lev oD oS eI eS ts).map (·.1)).Nodup) (fm : FcM a nd sn itk stk m)
    (y : Stt g L outer frs s₀ m ((I, oI) :: fcL a nd sn itk stk lev oD oS eI eS ts) s') : FcI2 w g L outer frs s₀ a su rk nd sn itk stk I oI N s'
/-- at the head of the outer while -/
inductive FcI1 (w : World) (g : Heap) (L : Addr) (outer : List Env) (frs : List (Addr × Obj)) (s₀ : Shared) (a : SA) (su : Nat → List Nat) (rk : Nat → Nat) (nd sn itk stk I : Addr) (oI : Obj) (N : Nat) (s' : Shared) : Prop
  | mk (S : Int → Bool) (lev : List Lev) (oD oS : Obj) (eI eS : Nat) (ts : List Value) (kvs : List (Int × Value)) (n : Nat) (m : Str → Option Value) (k : Nat) (t : Tok) (e : N = wt su S + wl su lev) (fc : FcS w a su rk nd sn itk stk S lev oD oS eI eS ts kvs n) (hnd : (((I, oI) :: fcL a nd sn itk stk lev oD oS eI eS ts).map (·.1)).Nodup) (fm : FcM a nd sn itk stk m)
    (hm : m (Str.ofString "node") = some (.int (Int.ofNat k) t)) (hk : k < 5) (hv : ∀ v ∈ lev, rk v.n < rk k) (hl : lev = [] → S (Int.ofNat k) = false)
    (y : Stt g L outer frs s₀ m ((I, oI) :: fcL a nd sn itk stk lev oD oS eI eS ts) s') : FcI1 w g L outer frs s₀ a su rk nd sn itk stk I oI N s'
theorem nodup_le (n : Nat) : ∀ l : List Nat, l.Nodup → (∀ x ∈ l, x < n) → l.length ≤ n := by
  induction n with
  | zero => intro l _ h; cases l with | nil => exact Nat.le_refl _ | cons x r => exact absurd (h x (.head _)) (Nat.not_lt_zero _)
  | succ n ih =>
    intro l hn h
    have h1 := ih (l.erase n) (hn.erase n) fun x hx => by
      have hx' := (hn.mem_erase_iff).mp hx
      have := h x hx'.2
      have hne := hx'.1
      omega
    have h2 := List.length_erase (a := n) (l := l)
    split at h2 <;> omega
theorem FcS.len {w : World} {a : SA} {su : Nat → List Nat} {rk : Nat → Nat} {nd sn itk stk : Addr} {S : Int → Bool} {lev : List Lev} {oD oS : Obj} {eI eS : Nat} {ts : List Value} {kvs : List (Int × Value)} {n : Nat}
    (x : FcS w a su rk nd sn itk stk S lev oD oS eI eS ts kvs n) : lev.length ≤ 5 ∧ ts.length = lev.length ∧ kvs.length = lev.length := by
  refine ⟨?_, ?_, ?_⟩
  · have h1 : (lev.map fun v => v.n).Nodup := by
      have := x.up
      rw [List.pairwise_map] at this
      rw [List.Nodup, List.pairwise_map]
      exact this.imp fun h e => by rw [e] at h; exact Nat.lt_irrefl _ h
    have h2 : ∀ k ∈ (lev.map fun v => v.n), k < 5 := fun k hk => by
      obtain ⟨v, hv, rfl⟩ := List.mem_map.mp hk
      exact (x.lev v hv).1
    have := nodup_le 5 _ h1 h2
    simpa using this
  · have := x.ts.length; simpa using this
  · have := congrArg List.length x.ks; simpa using this
end Mine
end PartFc1

section PartFc2
theorem Mine.anewFc2 : True := by
  w_top off
  trivial
open PySem PySem.W PySem.Calls PyProof.Rows
set_option Elab.async false
set_option maxRecDepth 100000
set_option maxHeartbeats 4000000
namespace Mine

theorem updF_app {d : Addr} {o : Obj} {l r : List (Addr × Obj)} {u : Obj → List (Addr × Obj)} (U : UpdF d o l u) (hr : ∀ p ∈ r, p.1 ≠ d) : UpdF d o (l ++ r) (fun o' => u o' ++ r) := by
  induction U with
  | head h => exact .head fun p hp => (List.mem_append.mp hp).elim (h p) (hr p)
  | tail h _ ih => exact .tail h ih
theorem updF_of {d : Addr} {o : Obj} (pre post : List (Addr × Obj)) (h : ((pre ++ (d, o) :: post).map (·.1)).Nodup) : UpdF d o (pre ++ (d, o) :: post) (fun o' => pre ++ (d, o') :: post) := by
  rw [List.map_append, List.map_cons] at h
  have := nodup_split h
  clear h
  induction pre with
  | nil => exact .head fun p hp => this.2 _ (List.mem_map_of_mem hp)
  | cons q r ih => exact .tail (this.1 _ (.head _)) (ih ⟨fun x hx => this.1 x (.tail _ hx), this.2⟩)
theorem updF_in {d : Addr} {o : Obj} {l : List (Addr × Obj)} {u : Obj → List (Addr × Obj)} (U : UpdF d o l u) : (d, o) ∈ l := by
  obtain ⟨pre, post, rfl, hu, a, c⟩ := U.split
  exact List.mem_append_right _ (.head _)
theorem updF_fst {d : Addr} {o : Obj} {l : List (Addr × Obj)} {u : Obj → List (Addr × Obj)} (U : UpdF d o l u) (o' : Obj) : (u o').map (·.1) = l.map (·.1) := by
  obtain ⟨pre, post, rfl, hu, a, c⟩ := U.split
  rw [hu]; simp

section
variable {g : Heap} {L : Addr} {outer : List Env} {frs0 l l' : List (Addr × Obj)} {s₀ s : Shared} {m : Str → Option Value}
  {w : World} {A : Around} {E : Value → Shared → Prop} {D : Addr} {o : Obj} {its : Array Value} {n : Nat} {u : Obj → List (Addr × Obj)} {k : Int} {t : Tok}
theorem Stt.appendL {x : Value} {Q : Value → Shared → Prop} (y : Stt g L outer frs0 s₀ m l s) (U : Upd D (listOf its n) (listOf (its.push x) (n + 1)) l l') (hz : its.size ≤ sizeLine) (h : ∀ s', Stt g L outer frs0 s₀ m l' s' → Q .none s') :
    wpAny (model PG w) A (call (.builtin "list.append") [.ref D, x]) Q E s := by
  obtain ⟨h', tk, frs, rfl, sl, ok, F, N, off⟩ := y
  exact append_K F N (upd_app U fun p hp => off p hp D (List.mem_map_of_mem (upd_in U))) (fun h₂ F₂ N₂ => h _ ⟨h₂, tk, frs, rfl, sl, ok, F₂, N₂, by rw [upd_fst U]; exact off⟩) hz
theorem last_snoc (p : List Value) (y : Value) : kl_last (p ++ [y]) = some (p, y) := by
  induction p with
  | nil => rfl
  | cons a r ih =>
    cases r with
    | nil => rfl
    | cons b r => simp only [List.cons_append] at ih ⊢; unfold kl_last; rw [ih]
theorem Stt.popL {p : List Value} {v : Value} {Q : Value → Shared → Prop} (y : Stt g L outer frs0 s₀ m l s) (U : Upd D (listOf (List.toArray (p ++ [v])) n) (listOf p.toArray (n + 1)) l l') (hz : p.length < sizeLine) (h : ∀ s', Stt g L outer frs0 s₀ m l' s' → Q v s') :
    wpAny (model PG w) A (call (.builtin "list.pop") [.ref D]) Q E s := by
  obtain ⟨h', tk, frs, rfl, sl, ok, F, N, off⟩ := y
  exact kl_pop F N (last_snoc p v) (upd_app U fun p hp => off p hp D (List.mem_map_of_mem (upd_in U))) (by show (p ++ [v]).length ≤ sizeLine; rw [List.length_append]; exact hz) (fun h₂ F₂ N₂ => h _ ⟨h₂, tk, frs, rfl, sl, ok, F₂, N₂, by rw [upd_fst U]; exact off⟩)
theorem Stt.lmethod {name : Str} {id : String} {pl : Sem Bool} {Q : Value × List Value → Shared → Prop} (y : Stt g L outer frs0 s₀ m l s) (hm : (D, listOf its n) ∈ l) (slot : Slot "list" name id) (hty : typeOf (.builtin id) = pure (.type "method_descriptor"))
    (h : Q (.builtin id, [.ref D]) s) : wpAny (model PG w) A (getMethod (.ref D) name pl) Q E s := kl_method y.news hm slot hty h
theorem Stt.dset {kvs : List (Int × Value)} {v : Value} {Q : Unit → Shared → Prop} (y : Stt g L outer frs0 s₀ m l s) (U : UpdF D o l u) (hd : o.IsDictOf (intKind PG w) kvs) (hn : kvs.length ≤ sizeLine)
    (h : ∀ s' o', Stt g L outer frs0 s₀ m (u o') s' → o'.IsDictOf (intKind PG w) (stored kvs k v) → Q () s') : wpAny (model PG w) A (setItem (.ref D) (.int k t) v) Q E s := by
  obtain ⟨h', tk, frs, rfl, sl, ok, F, N, off⟩ := y
  exact dset_K F N (updF_app U fun p hp => off p hp D (List.mem_map_of_mem (updF_in U))) hd hn fun h₂ o' F₂ N₂ hd' => h _ o' ⟨h₂, _, frs, rfl, sl, ok, F₂, N₂, by rw [updF_fst U]; exact off⟩ hd'
theorem Stt.ddel {kvs : List (Int × Value)} {Q : Unit → Shared → Prop} (y : Stt g L outer frs0 s₀ m l s) (U : UpdF D o l u) (hd : o.IsDictOf (intKind PG w) kvs) (hn : kvs.length ≤ sizeLine) (hk : (valueAt kvs k).isSome = true)
    (h : ∀ s' o', Stt g L outer frs0 s₀ m (u o') s' → o'.IsDictOf (intKind PG w) (without kvs k) → Q () s') : wpAny (model PG w) A (delItem (.ref D) (.int k t)) Q E s := by
  obtain ⟨h', tk, frs, rfl, sl, ok, F, N, off⟩ := y
  exact ddel_K F N (updF_app U fun p hp => off p hp D (List.mem_map_of_mem (updF_in U))) hd hn hk fun h₂ o' F₂ N₂ hd' => h _ o' ⟨h₂, _, frs, rfl, sl, ok, F₂, N₂, by rw [updF_fst U]; exact off⟩ hd'
theorem Stt.sadd {S : Int → Bool} {n : Nat} {Q : Value → Shared → Prop} (y : Stt g L outer frs0 s₀ m l s) (U : UpdF D o l u) (hS : SetO w o S n) (hn : n < 100)
    (h : ∀ s' o', Stt g L outer frs0 s₀ m (u o') s' → SetO w o' (ad S k) (if S k then n else n + 1) → Q .none s') : wpAny (model PG w) A (call (.builtin "set.add") [.ref D, .int k t]) Q E s := by
  obtain ⟨h', tk, frs, rfl, sl, ok, F, N, off⟩ := y
  exact sadd_call F N (updF_app U fun p hp => off p hp D (List.mem_map_of_mem (updF_in U))) hS hn fun h₂ o' F₂ N₂ hd' => h _ o' ⟨h₂, _, frs, rfl, sl, ok, F₂, N₂, by rw [updF_fst U]; exact off⟩ hd'
end

section
variable {M : Model} {A : Around} {E : Value → Shared → Prop} {s : Shared} {env : Env}
theorem callWith_mw {pos : Pos} {x it : Addr} {Q : Value → Shared → Prop} (ho : s.heap.get? x = some (mwObj it)) (h : wpAny M A (call (.ref x) []) Q E s) :
    wpAny M A (callWith pos (.ref x) [] (backTo pos (starEach [] env)) []) Q E s := by
  unfold callWith
  refine wpAny_bind (wpAny_holding (evalArgs_nil3 (wpAny_bind (wpAny_standAt ?_))))
  refine wpAny_bind (m := keeperOf (.ref x)) ?_
  unfold keeperOf
  refine wpAny_bind (wpAny_load ho ?_)
  simp only [show (Value.type "method-wrapper" != Value.type "method") = true by decide, show (Value.type "method-wrapper" == Value.type "builtin_function_or_method" || Value.type "method-wrapper" == Value.type "method-wrapper") = true by decide, if_true]
  refine wpAny_pure ?_
  exact wpAny_bind (wpAny_mono h (fun r s₂ hr => wpAny_bind (wpAny_holding (wpAny_point (wpAny_pure hr)))) fun _ _ x => x)
end

theorem ints_snoc {vs : List Value} {l : List Int} {n : Int} (h : IntsAre vs (l ++ [n])) : ∃ vs' t, vs = vs' ++ [.int n t] ∧ IntsAre vs' l := by
  induction l generalizing vs with
  | nil => cases h with | cons n t r => cases r; exact ⟨[], t, rfl, .nil⟩
  | cons a r ih =>
    cases h with
    | cons n t h' =>
      obtain ⟨vs', t', rfl, hi⟩ := ih h'
      exact ⟨.int a t :: vs', t', rfl, .cons _ _ hi⟩
end Mine
end PartFc2

section PartFc3
theorem Mine.anewFc3 : True := by
  w_top off
  trivial
open PySem PySem.W PySem.Calls PyProof.Rows
set_option Elab.async false
set_option maxRecDepth 100000
set_option maxHeartbeats 4000000
namespace Mine

theorem stop_exc : isSubtype (.type "StopIteration") (.type "BaseException") = pure true := by rw [isSubtype_type]; kernel_rfl
theorem stop_nt : isSubtype (.type ((Manifest.find? "StopIteration").elim "type" fun y => y.metatype)) (.type "tuple") = pure false := by first | (rw [isSubtype_type]; kernel_rfl) | kernel_rfl
theorem without_last {kvs' : List (Int × Value)} {k : Int} {v : Value} (h : k ∉ kvs'.map (·.1)) : without (kvs' ++ [(k, v)]) k = kvs' := by
  unfold without
  rw [List.filter_append]
  have h1 : kvs'.filter (fun kv => decide (kv.1 ≠ k)) = kvs' := without_of_not_mem kvs' k h
  rw [h1]; simp
theorem valueAt_last {kvs' : List (Int × Value)} {k : Int} {v : Value} : (valueAt (kvs' ++ [(k, v)]) k).isSome = true := by
  unfold valueAt
  rw [Option.isSome_map, List.find?_isSome]
  exact ⟨(k, v), by simp, by simp⟩

section
variable {g : Heap} {L : Addr} {outer : List Env} {frs : List (Addr × Obj)} {s₀ s : Shared}
  {w : World} {A : Around} {E : Value → Shared → Prop} {name : Str} {scope : Scope} {fa : Addr} {cd : Value} {Q : Flow → Shared → Prop}
  {a : SA} {su : Nat → List Nat} {rk : Nat → Nat} {nd sn itk stk I : Addr} {oI : Obj} {mg mb : Str → Option Value} {p : Program} {loose : List Str}
  {p1 p2 p3 p4 p5 p6 p7 p8 p9 p10 p11 p12 p13 p14 p15 p16 p17 p18 p19 p20 p21 p22 p23 p24 : Pos} {c1 : Nat}

theorem fc_inner (hk : scope.kind = .function) (k1 : (envOf name scope L fa cd).kindOf (Str.ofString "stack") = some .local) (k2 : (envOf name scope L fa cd).kindOf (Str.ofString "itstack") = some .local) (k3 : (envOf name scope L fa cd).kindOf (Str.ofString "node") = some .local)
    (k4 : (envOf name scope L fa cd).kindOf (Str.ofString "node2stacki") = some .local) (k5 : (envOf name scope L fa cd).kindOf (Str.ofString "StopIteration") = some .globalImplicit)
    (hi : interactive (envOf name scope L fa cd) = false)
    (hs1 : swapsWith (.Call (.Subscript (.Name (Str.ofString "itstack") p3) (.UnaryOp .USub (.Constant (.int 1) c1 p4) p5) p6) [] [] p7) (some (.Name (Str.ofString "node") p2)) p8.line (envOf name scope L fa cd) = pure false)
    (hs2 : swapsWith (.Call (.Attribute (.Name (Str.ofString "itstack") p17) (Str.ofString "pop") ⟨148, 24, 148, 35⟩) [] [] ⟨148, 24, 148, 37⟩) none p20.line (envOf name scope L fa cd) = pure false)
    (hA : A.frames = some (envOf name scope L fa cd :: outer)) (hh : A.handled = none)
    (T : TopRead p loose mg mb g) (hmg : mg (Str.ofString "StopIteration") = none)
    (hsu : ∀ k < 5, (∃ vs, g.IsList (a.U k) (List.toArray vs) ∧ IntsAre vs ((su k).map Int.ofNat)) ∧ (∀ j ∈ su k, j < 5 ∧ rk k < rk j) ∧ (su k).length ≤ 100)
    {N : Nat} (x : FcI2 w g L outer frs s₀ a su rk nd sn itk stk I oI N s)
    (hQ1 : ∀ N' s', N' < N → FcI1 w g L outer frs s₀ a su rk nd sn itk stk I oI N' s' → Q .next s')
    (hQ2 : ∀ S oD oS eI eS n m s', FcS w a su rk nd sn itk stk S [] oD oS eI eS [] [] n → FcM a nd sn itk stk m → Stt g L outer frs s₀ m ((I, oI) :: fcL a nd sn itk stk [] oD oS eI eS []) s' → Q .brk s') :
    wpAny (model PG w) A (exec (.While (.Name (Str.ofString "stack") p1)
      [.Try [.Assign [.Name (Str.ofString "node") p2] (.Call (.Subscript (.Name (Str.ofString "itstack") p3) (.UnaryOp .USub (.Constant (.int 1) c1 p4) p5) p6) [] [] p7) p8, .Break p9]
        [.ExceptHandler (some (.Name (Str.ofString "StopIteration") p10)) none
          [.Delete [.Subscript (.Name (Str.ofString "node2stacki") p11) (.Call (.Attribute (.Name (Str.ofString "stack") p12) (Str.ofString "pop") ⟨147, 40, 147, 49⟩) [] [] ⟨147, 40, 147, 51⟩) p15] p16,
           .Expr (.Call (.Attribute (.Name (Str.ofString "itstack") p17) (Str.ofString "pop") ⟨148, 24, 148, 35⟩) [] [] ⟨148, 24, 148, 37⟩) p20] p21] [] [] p22]
      [.Break p23] p24) (envOf name scope L fa cd)) Q E s := by
  have hszl : (2000 : Nat) ≤ sizeLine := by rw [sizeLine_eq]; decide
  refine wpAny_While (codeAny_whileLoop (fun n s' => n ≤ N ∧ FcI2 w g L outer frs s₀ a su rk nd sn itk stk I oI n s') ?_ N ⟨Nat.le_refl _, x⟩)
  clear x
  rintro n s' ⟨hn, S, lev, oD, oS, eI, eS, ts, kvs, nn, m, rfl, fc, hnd, fm, y⟩
  have hlen := fc.len
  have hts : s'.heap.IsList stk (List.toArray ts) := ⟨_, (y.news (stk, listOf (List.toArray ts) eS) (.tail _ (.tail _ (.tail _ (.tail _ (.head _)))))).1, rfl, _, rfl⟩
  refine wpAny_isTrue_value (y.ld fm.stack (wpAny_truthy_list hts (by rw [List.size_toArray]; omega) ?_) hk k1 (by decide))
  rcases List.eq_nil_or_concat lev with rfl | ⟨lev', x, rfl⟩
  · have e1 : ts = [] := List.eq_nil_of_length_eq_zero (by simpa using hlen.2.1)
    have e2 : kvs = [] := List.eq_nil_of_length_eq_zero (by simpa using hlen.2.2)
    subst e1 e2
    rw [if_neg (by decide)]
    exact wpAny_execs_cons (wpAny_Break (hQ2 _ _ _ _ _ _ _ _ fc fm y.tok))
  · simp only [List.concat_eq_append] at *
    have hfts := fc.ts
    simp only [List.map_append, List.map_cons, List.map_nil] at hfts
    obtain ⟨ts', tx, rfl, hts'⟩ := ints_snoc hfts
    rw [if_pos (by simp)]
    refine wp_veil fun QW EW hQW hEW => ?_
    have hx := fc.lev x (by simp)
    obtain ⟨⟨vs, hvs, hints⟩, hsuj, hsul⟩ := hsu x.n hx.1
    refine wpAny_execs_cons (wpAny_Try_except ?_)
    refine wpAny_execs_cons (wpAny_Assign_Name ?_ hs1)
    refine Call_ (Subscript_ (y.tok.ld fm.itstack (UnaryOp_ (wpAny_Constant_int (neg_int ?_))) hk k2 (by decide)))
    have y1 := fun tk => y.tok (tk := tk)
    have hit : ∀ tk, ({ s' with toks := tk } : Shared).heap.IsList itk (List.toArray ((lev' ++ [x]).map fun v => Value.ref v.mw)) := fun tk => ⟨_, (y.news (itk, listOf (List.toArray ((lev' ++ [x]).map fun v => Value.ref v.mw)) eI) (.tail _ (.tail _ (.tail _ (.head _))))).1, rfl, _, rfl⟩
    refine tail_any (hit _).typeIs slot_list_getitem.lookup (wpAny_getItem_list_neg (hit _) (by decide) (by simp; omega) (by decide) (x := .ref x.mw) (by simp only [List.map_append, List.map_cons, List.map_nil, List.size_toArray, List.length_append, List.length_map, List.length_cons, List.length_nil]; rw [show (-1 + ((lev'.length + (0 + 1) : Nat) : Int)).toNat = lev'.length from by omega]; simp) ?_) (by with_unfolding_all rfl)
    have hl1 : levL a (lev' ++ [x]) = levL a lev' ++ [(x.mw, mwObj x.it), (x.it, liObj (a.U x.n) x.pos)] := levL_snoc a lev' x
    have gmw := (y.news (x.mw, mwObj x.it) (.tail _ (.tail _ (.tail _ (.tail _ (.tail _ (show _ ∈ levL a (lev' ++ [x]) by rw [hl1]; simp))))))).1
    have git := (y.news (x.it, liObj (a.U x.n) x.pos) (.tail _ (.tail _ (.tail _ (.tail _ (.tail _ (show _ ∈ levL a (lev' ++ [x]) by rw [hl1]; simp))))))).1
    have gl : ∀ tk, ({ s' with toks := tk } : Shared).heap.IsList (a.U x.n) (List.toArray vs) := fun tk => hvs.at fun o q => y.fr.keep _ o q
    refine callWith_mw gmw ?_
    have hvl : vs.length = (su x.n).length := by rw [hints.length, List.length_map]
    have hld : (I, oI) :: fcL a nd sn itk stk (lev' ++ [x]) oD oS eI eS (ts' ++ [Value.int (Int.ofNat x.n) tx]) = ((I, oI) :: (nd, oD) :: (sn, oS) :: (itk, listOf (List.toArray ((lev' ++ [x]).map fun v => Value.ref v.mw)) eI) :: (stk, listOf (List.toArray (ts' ++ [Value.int (Int.ofNat x.n) tx])) eS) :: (levL a lev' ++ [(x.mw, mwObj x.it)])) ++ (x.it, liObj (a.U x.n) x.pos) :: [] := by
      simp [fcL, levL_snoc]
    have hup : ∀ o', Upd x.it (liObj (a.U x.n) x.pos) o' ((I, oI) :: fcL a nd sn itk stk (lev' ++ [x]) oD oS eI eS (ts' ++ [Value.int (Int.ofNat x.n) tx])) (((I, oI) :: (nd, oD) :: (sn, oS) :: (itk, listOf (List.toArray ((lev' ++ [x]).map fun v => Value.ref v.mw)) eI) :: (stk, listOf (List.toArray (ts' ++ [Value.int (Int.ofNat x.n) tx])) eS) :: (levL a lev' ++ [(x.mw, mwObj x.it)])) ++ (x.it, o') :: []) := fun o' => by
      rw [hld]; exact upd_of _ _ (by rw [← hld]; exact hnd)
    by_cases hlt : x.pos < (su x.n).length
    · obtain ⟨tv, htv⟩ := hints.get x.pos (Int.ofNat (su x.n)[x.pos]) (by simp [hlt])
      refine mw_item gmw git (gl _) (by simpa using htv) fun h' e1 e2 e3 => ?_
      have y2 := (y1 0).turnU (tk := s'.toks + 1 + 1 + 1 + 1) (hup (liObj (a.U x.n) (x.pos + 1))) (fun b o hb q => e2 b o (by simpa using hb) q) e1
      have hj := hsuj _ (List.getElem_mem hlt)
      refine y2.st (fun s₂ y₃ => ?_) hk k3
      refine wpAny_execs_cons (wpAny_Break ?_)
      refine hQW .brk _ (hQ1 (wt su S + wl su (lev' ++ [{ x with pos := x.pos + 1 }])) s₂ ?_ ⟨S, lev' ++ [{ x with pos := x.pos + 1 }], oD, oS, eI, eS, ts' ++ [Value.int (Int.ofNat x.n) tx], kvs, nn, _, (su x.n)[x.pos], tv, rfl, ⟨?_, fc.d, ?_, fc.s, fc.un, ?_, ?_⟩, ?_, fm.put _, if_pos rfl, hj.1, ?_, fun q => by simp at q, ?_⟩)
      · rw [wl_snoc] at hn ⊢; dsimp only; omega
      · simpa using fc.ts
      · simpa using fc.ks
      · have := fc.up; simpa using this
      · intro v hv
        rcases List.mem_append.mp hv with hv | hv
        · exact fc.lev v (List.mem_append_left _ hv)
        · rw [List.mem_singleton.mp hv]; exact ⟨hx.1, hlt, hx.2.2⟩
      · have : ((I, oI) :: fcL a nd sn itk stk (lev' ++ [{ x with pos := x.pos + 1 }]) oD oS eI eS (ts' ++ [Value.int (Int.ofNat x.n) tx])).map (·.1) = ((I, oI) :: fcL a nd sn itk stk (lev' ++ [x]) oD oS eI eS (ts' ++ [Value.int (Int.ofNat x.n) tx])).map (·.1) := by
          simp [fcL, levL_snoc]
        rw [this]; exact hnd
      · intro v hv
        have hup2 := fc.up
        rw [List.map_append, List.pairwise_append] at hup2
        have hle : rk v.n ≤ rk x.n := by
          rcases List.mem_append.mp hv with hv | hv
          · exact Nat.le_of_lt (hup2.2.2 _ (List.mem_map_of_mem hv) _ (by simp))
          · rw [List.mem_singleton.mp hv]; exact Nat.le_refl _
        omega
      · have e9 : (I, oI) :: fcL a nd sn itk stk (lev' ++ [{ x with pos := x.pos + 1 }]) oD oS eI eS (ts' ++ [Value.int (Int.ofNat x.n) tx]) = ((I, oI) :: (nd, oD) :: (sn, oS) :: (itk, listOf (List.toArray ((lev' ++ [x]).map fun v => Value.ref v.mw)) eI) :: (stk, listOf (List.toArray (ts' ++ [Value.int (Int.ofNat x.n) tx])) eS) :: (levL a lev' ++ [(x.mw, mwObj x.it)])) ++ (x.it, liObj (a.U x.n) (x.pos + 1)) :: [] := by
          simp [fcL, levL_snoc]
        rw [e9]; exact y₃
    · refine mw_end hh gmw git (gl _) (Array.getElem?_eq_none (by simp; omega)) fun h' e e1 e2 e3 e4 => ?_
      have y2 := (y1 0).turnU (tk := s'.toks + 1 + 1 + 1 + 1) (hup (liEnd x.pos)) (fun b o hb q => e2 b o (by simpa using hb) q) e1
      have hsub : ∀ p ∈ (I, oI) :: (nd, oD) :: (sn, oS) :: (itk, listOf (List.toArray ((lev' ++ [x]).map fun v => Value.ref v.mw)) eI) :: (stk, listOf (List.toArray (ts' ++ [Value.int (Int.ofNat x.n) tx])) eS) :: levL a lev', p ∈ ((I, oI) :: (nd, oD) :: (sn, oS) :: (itk, listOf (List.toArray ((lev' ++ [x]).map fun v => Value.ref v.mw)) eI) :: (stk, listOf (List.toArray (ts' ++ [Value.int (Int.ofNat x.n) tx])) eS) :: (levL a lev' ++ [(x.mw, mwObj x.it)])) ++ [(x.it, liEnd x.pos)] := fun p hp => by
        simp only [List.mem_cons, List.mem_append, List.cons_append] at hp ⊢
        rcases hp with hp | hp | hp | hp | hp | hp <;> simp [hp]
      have hsub2 : ∀ p ∈ (I, oI) :: (nd, oD) :: (sn, oS) :: (itk, listOf (List.toArray ((lev' ++ [x]).map fun v => Value.ref v.mw)) eI) :: (stk, listOf (List.toArray (ts' ++ [Value.int (Int.ofNat x.n) tx])) eS) :: levL a lev', p ∈ ((I, oI) :: fcL a nd sn itk stk (lev' ++ [x]) oD oS eI eS (ts' ++ [Value.int (Int.ofNat x.n) tx])) := fun p hp => by
        simp only [List.mem_cons, fcL, levL_snoc, List.mem_append] at hp ⊢
        rcases hp with hp | hp | hp | hp | hp | hp <;> simp [hp]
      have hnd2 : (((I, oI) :: (nd, oD) :: (sn, oS) :: (itk, listOf (List.toArray ((lev' ++ [x]).map fun v => Value.ref v.mw)) eI) :: (stk, listOf (List.toArray (ts' ++ [Value.int (Int.ofNat x.n) tx])) eS) :: levL a lev').map (·.1)).Nodup := by
        refine hnd.sublist (List.Sublist.map _ ?_)
        refine .cons_cons _ (.cons_cons _ (.cons_cons _ (.cons_cons _ (.cons_cons _ ?_))))
        rw [hl1]; exact List.sublist_append_left _ _
      refine (y2.sub hsub).caught (y.above.sub hsub2) hA (.inl e4) T hmg PyProof.Rows.Boot.«StopIteration» (by decide +kernel) stop_exc stop_nt (by rw [isSubtype_type]; kernel_rfl) hk k5 (by decide) ?_
      intro s₃ y₃ _
      clear y2
      refine wpAny_execs_cons (wpAny_Delete (wpAny_deleteEach_cons (delete_Subscript (y₃.ld fm.n2s (MethodCall_ (y₃.ld fm.stack ?_ hk k1 (by decide))) hk k4 (by decide)))))
      refine y₃.lmethod (.tail _ (.tail _ (.tail _ (.tail _ (.head _))))) PySem.F.slot_list_pop PySem.F.type_list_pop (callWith_method0 ?_)
      refine y₃.popL (upd_of [_, _, _, _] (levL a lev') hnd2) (by simp at hlen; omega) fun s₄ y₄ => ?_
      clear y₃
      have hks := fc.ks
      simp only [List.map_append, List.map_cons, List.map_nil] at hks
      obtain ⟨kvs', kl, rfl, hk1, hk2⟩ := List.map_eq_append_iff.mp hks
      obtain ⟨⟨kx, vx⟩, rfl, hkx⟩ := List.map_eq_singleton_iff.mp hk2
      obtain rfl : kx = Int.ofNat x.n := hkx
      have hup2 := fc.up
      rw [List.map_append, List.pairwise_append] at hup2
      have hnot : Int.ofNat x.n ∉ kvs'.map (·.1) := fun hm => by
        rw [hk1] at hm
        obtain ⟨v, hv, e⟩ := List.mem_map.mp hm
        have h1 := hup2.2.2 _ (List.mem_map_of_mem hv) _ (by simp : rk x.n ∈ List.map (fun v => rk v.n) [x])
        rw [Int.ofNat.inj e] at h1
        exact Nat.lt_irrefl _ h1
      refine y₄.ddel (updF_of [_] _ (by simpa using hnd2)) fc.d (by simp at hlen ⊢; omega) valueAt_last fun s₅ oD₅ y₅ hd₅ => ?_
      rw [without_last hnot] at hd₅
      clear y₄
      refine wpAny_deleteEach_nil ?_
      refine wpAny_execs_cons (wpAny_Expr_any (MethodCall_ (y₅.ld fm.itstack ?_ hk k2 (by decide))) hi hs2)
      refine y₅.lmethod (.tail _ (.tail _ (.tail _ (.head _)))) PySem.F.slot_list_pop PySem.F.type_list_pop (callWith_method0 ?_)
      have eit : (List.toArray ((lev' ++ [x]).map fun v => Value.ref v.mw)) = List.toArray ((lev'.map fun v => Value.ref v.mw) ++ [Value.ref x.mw]) := by simp
      rw [eit] at y₅
      refine y₅.popL (upd_of [_, _, _] _ (by simpa using hnd2)) (by simp at hlen ⊢; omega) fun s₆ y₆ => ?_
      refine wpAny_execs_nil (wpAny_execs_nil (hQW .next _ ⟨wt su S + wl su lev', ?_, ?_, S, lev', oD₅, oS, eI + 1, eS + 1, ts', kvs', nn, m, rfl, ⟨hts', hd₅, hk1, fc.s, fc.un, hup2.1, fun v hv => fc.lev v (List.mem_append_left _ hv)⟩, ?_, fm, ?_⟩))
      · rw [wl_snoc]; omega
      · rw [wl_snoc] at hn; omega
      · simpa using hnd2
      · exact y₆
end
end Mine
end PartFc3

section PartFc4
theorem Mine.anewFc4 : True := by
  w_top off
  trivial
open PySem PySem.W PySem.Calls PyProof.Rows
set_option Elab.async false
set_option maxRecDepth 100000
set_option maxHeartbeats 4000000
namespace Mine
theorem fillFc4 : hd.heap_1 = hd.heap_1 ∧ PySem.Challenge.rw_mg0051_01 = PySem.Challenge.rw_mg0051_01 := by
  k_fill
  exact ⟨rfl, rfl⟩

section
variable {w : World} {A : Around} {E : Value → Shared → Prop} {s : Shared} {h₀ : Heap} {L : Addr} {m : Str → Option Value} {a : SA} {v : SV} {k : Nat} {expr : Bool}
theorem get_su_fz {Q : Value → Shared → Prop} (F : Fr h₀ L s.heap m) (X₀ : (hd.heap_1 w.params).In h₀) (h1 : h₀.get? (a.I k) = some (niObj (a.dI k) (a.U k) (v.np k) (v.nd k))) (h2 : h₀.get? (a.dI k) = some (dictOf [] 0)) (h : Q (.ref (a.U k)) { s with toks := s.toks + 1 }) :
    wpAny (model PG w) A (getAttr (.ref (a.I k)) (Str.ofString "successors") expr) Q E s :=
  get_slot F X₀ (InstAt.of_fz F h1 h2) (by k_is) (by k_is) (by k_is) (by k_is) (by k_is) (by k_is) rfl rfl h
theorem iter_list {l : Addr} {items : Array Value} {Q : Value → Shared → Prop} (hl : s.heap.IsList l items) (h : Q (.ref s.heap.objs.size) { s with heap := s.heap.push { cls := .type "list_iterator", data := .fields #[.ref l, .int 0 0] } }) :
    wpAny (model PG w) A (call (.builtin "iter") [.ref l]) Q E s := by
  refine call_function_entry (by decide +kernel) (by decide +kernel) kdk_entry_iter (kdk_args_iter _) ?_
  unfold Builtin.«iter»
  refine wpAny_bind (m := someArgs "iter" 1 2 _) (wpAny_of_eq (a := [Value.ref l]) (by first | rfl | kernel_rfl!) ?_)
  show wpAny _ _ (pyIter (.ref l) >>= _) _ _ _
  exact wpAny_bind (wpAny_pyIter_list hl (wpAny_pure ⟨_, rfl, h⟩))
end

theorem stored_new {kvs : List (Int × Value)} {k : Int} {v : Value} (h : k ∉ kvs.map (·.1)) : stored kvs k v = kvs ++ [(k, v)] := by
  unfold stored
  rw [if_neg]
  intro hh
  obtain ⟨p, hp, e⟩ := List.any_eq_true.mp hh
  exact h (List.mem_map.mpr ⟨p, hp, by simpa using e⟩)

section
variable {g : Heap} {L : Addr} {outer : List Env} {frs : List (Addr × Obj)} {s₀ s : Shared}
  {w : World} {A : Around} {E : Value → Shared → Prop} {name : Str} {scope : Scope} {fa : Addr} {cd : Value} {Q : Flow → Shared → Prop}
  {a : SA} {v : SV} {su : Nat → List Nat} {rk : Nat → Nat} {nd sn itk stk I : Addr} {oI : Obj} {mg mb : Str → Option Value} {p : Program} {loose : List Str}
  {p1 p2 p3 p4 p5 p6 p7 p8 p9 p10 p11 p12 p13 p14 p15 p16 p17 p18 p19 p20 p21 p22 p23 p24 : Pos}

theorem fc_push (hk : scope.kind = .function) (k1 : (envOf name scope L fa cd).kindOf (Str.ofString "stack") = some .local) (k2 : (envOf name scope L fa cd).kindOf (Str.ofString "itstack") = some .local) (k3 : (envOf name scope L fa cd).kindOf (Str.ofString "node") = some .local)
    (k4 : (envOf name scope L fa cd).kindOf (Str.ofString "node2stacki") = some .local) (k5 : (envOf name scope L fa cd).kindOf (Str.ofString "seen") = some .local) (k6 : (envOf name scope L fa cd).kindOf (Str.ofString "n2i") = some .local)
    (k7 : (envOf name scope L fa cd).kindOf (Str.ofString "iter") = some .globalImplicit) (k8 : (envOf name scope L fa cd).kindOf (Str.ofString "len") = some .globalImplicit)
    (hi : interactive (envOf name scope L fa cd) = false)
    (hs1 : swapsWith (.Call (.Attribute (.Name (Str.ofString "seen") p1) (Str.ofString "add") ⟨138, 20, 138, 28⟩) [.Name (Str.ofString "node") p2] [] ⟨138, 20, 138, 34⟩) none p3.line (envOf name scope L fa cd) = pure false)
    (hs2 : swapsWith (.Call (.Attribute (.Name (Str.ofString "itstack") p4) (Str.ofString "append") ⟨139, 20, 139, 34⟩) [.Attribute (.Call (.Name (Str.ofString "iter") p5) [.Attribute (.Subscript (.Name (Str.ofString "n2i") p6) (.Name (Str.ofString "node") p7) p8) (Str.ofString "successors") p9] [] p10) (Str.ofString "__next__") p11] [] ⟨139, 20, 139, 71⟩) none p12.line (envOf name scope L fa cd) = pure false)
    (hs3 : swapsWith (.Call (.Name (Str.ofString "len") p16) [.Name (Str.ofString "stack") p17] [] p18) (some (.Subscript (.Name (Str.ofString "node2stacki") p13) (.Name (Str.ofString "node") p14) p15)) p19.line (envOf name scope L fa cd) = pure false)
    (hs4 : swapsWith (.Call (.Attribute (.Name (Str.ofString "stack") p20) (Str.ofString "append") ⟨141, 20, 141, 32⟩) [.Name (Str.ofString "node") p21] [] ⟨141, 20, 141, 38⟩) none p22.line (envOf name scope L fa cd) = pure false)
    (X : (hd.heap_1 w.params).In g) (hD : v.oD.IsDictOf (intKind PG w) (n2iK a)) (fD : g.get? a.D = some v.oD)
    (fI : ∀ k < 5, g.get? (a.I k) = some (niObj (a.dI k) (a.U k) (v.np k) (v.nd k)) ∧ g.get? (a.dI k) = some (dictOf [] 0))
    (T : TopRead p loose mg mb g) (hm1 : mg (Str.ofString "iter") = none) (hm2 : mg (Str.ofString "len") = none)
    (hsu : ∀ k < 5, (∃ vs, g.IsList (a.U k) (List.toArray vs) ∧ IntsAre vs ((su k).map Int.ofNat)) ∧ (∀ j ∈ su k, j < 5 ∧ rk k < rk j) ∧ (su k).length ≤ 100)
    {S : Int → Bool} {lev : List Lev} {oD oS : Obj} {eI eS : Nat} {ts : List Value} {kvs : List (Int × Value)} {n : Nat} {m : Str → Option Value} {k : Nat} {t : Tok}
    (fc : FcS w a su rk nd sn itk stk S lev oD oS eI eS ts kvs n) (hnd : (((I, oI) :: fcL a nd sn itk stk lev oD oS eI eS ts).map (·.1)).Nodup) (fm : FcM a nd sn itk stk m)
    (mn : m (Str.ofString "node") = some (.int (Int.ofNat k) t)) (hk5 : k < 5) (hrk : ∀ v ∈ lev, rk v.n < rk k) (hS : S (Int.ofNat k) = false)
    (y : Stt g L outer frs s₀ m ((I, oI) :: fcL a nd sn itk stk lev oD oS eI eS ts) s)
    (hQ : ∀ N' s', N' + 1 = wt su S + wl su lev → FcI2 w g L outer frs s₀ a su rk nd sn itk stk I oI N' s' → Q .next s') :
    wpAny (model PG w) A (execs
      [.Expr (.Call (.Attribute (.Name (Str.ofString "seen") p1) (Str.ofString "add") ⟨138, 20, 138, 28⟩) [.Name (Str.ofString "node") p2] [] ⟨138, 20, 138, 34⟩) p3,
       .Expr (.Call (.Attribute (.Name (Str.ofString "itstack") p4) (Str.ofString "append") ⟨139, 20, 139, 34⟩) [.Attribute (.Call (.Name (Str.ofString "iter") p5) [.Attribute (.Subscript (.Name (Str.ofString "n2i") p6) (.Name (Str.ofString "node") p7) p8) (Str.ofString "successors") p9] [] p10) (Str.ofString "__next__") p11] [] ⟨139, 20, 139, 71⟩) p12,
       .Assign [.Subscript (.Name (Str.ofString "node2stacki") p13) (.Name (Str.ofString "node") p14) p15] (.Call (.Name (Str.ofString "len") p16) [.Name (Str.ofString "stack") p17] [] p18) p19,
       .Expr (.Call (.Attribute (.Name (Str.ofString "stack") p20) (Str.ofString "append") ⟨141, 20, 141, 32⟩) [.Name (Str.ofString "node") p21] [] ⟨141, 20, 141, 38⟩) p22] (envOf name scope L fa cd)) Q E s := by
  have hszl : (2000 : Nat) ≤ sizeLine := by rw [sizeLine_eq]; decide
  have hlen := fc.len
  have hn5 : n ≤ 5 := by have := fc.un; omega
  refine wpAny_execs_cons (wpAny_Expr_any (MethodCall_ (y.ld fm.seen ?_ hk k5 (by decide))) hi hs1)
  refine sadd_method y.news (.tail _ (.tail _ (.head _))) fc.s (callWith_method1 (args_cons (y.ld mn (args_nil ?_) hk k3 (by decide))))
  refine y.sadd (updF_of [_, _] _ hnd) fc.s (by omega) fun s₁ oS₁ y₁ hS₁ => ?_
  rw [hS] at hS₁
  clear y
  have hun : n + 1 + un (ad S (Int.ofNat k)) = 5 := by have := fc.un; have := un_add hk5 hS; omega
  refine wpAny_execs_cons (wpAny_Expr_any (MethodCall_ (y₁.ld fm.itstack ?_ hk k2 (by decide))) hi hs2)
  refine y₁.lmethod (.tail _ (.tail _ (.tail _ (.head _)))) PySem.F.slot_list_append PySem.F.type_list_append (callWith_method1 (args_cons ?_))
  refine Attribute_any_ (Call_ ?_)
  refine ld_builtin_at y₁.fr T.g hm1 T.b ((T.builtins _ (by decide +kernel)).trans Boot.«iter») ?_ hk k7 (by decide)
  refine callWith_builtin1 (args_cons (Attribute_any_ (Subscript_ (y₁.ld fm.n2i (y₁.ld mn ?_ hk k3 (by decide)) hk k6 (by decide)))))
  have hmap : s₁.heap.MapOf (intKind PG w) a.D (valueAt (n2iK a)) := (Heap.dictOf_iff.mpr ⟨v.oD, y₁.fr.keep _ _ fD, hD⟩).mapOf
  refine tail_any hmap.typeIs slot_dict_getitem.lookup (wpAny_getItem_of (intKind_is _ _ _ _) hmap (n2i_at a hk5) ?_) (by with_unfolding_all rfl)
  refine get_su_fz (v := v) y₁.fr X (fI k hk5).1 (fI k hk5).2 (args_nil ?_)
  obtain ⟨⟨vs, hvs, hints⟩, hsuj, hsul⟩ := hsu k hk5
  refine iter_list (hvs.at fun o q => y₁.fr.keep _ o q) ?_
  obtain ⟨y₂, ne₂⟩ := (y₁.tok (tk := s₁.toks + 1 + 1)).push (liObj (a.U k) 0)
  obtain ⟨y₃, ne₃⟩ := y₂.push (mwObj s₁.heap.objs.size)
  refine next_attr (vs := #[.ref (a.U k), .int 0 0]) (y₂.news _ (.head _)).1 ?_
  have y₄ := y₃.tok (tk := s₁.toks + 1 + 1 + 1)
  clear y₃ y₂
  dsimp only at y₄ ne₂ ne₃
  generalize hit : s₁.heap.objs.size = it at y₄ ne₂ ne₃ ⊢
  generalize hmw : (Heap.push s₁.heap (liObj (a.U k) 0)).objs.size = mw at y₄ ne₂ ne₃ ⊢
  refine args_nil ?_
  have hnd3 : (((mw, mwObj it) :: (it, liObj (a.U k) 0) :: (I, oI) :: (nd, oD) :: (sn, oS₁) :: (itk, listOf (List.toArray (lev.map fun v => Value.ref v.mw)) eI) :: (stk, listOf (List.toArray ts) eS) :: levL a lev).map (·.1)).Nodup := by
    rw [List.map_cons, List.nodup_cons, List.map_cons, List.nodup_cons]
    refine ⟨fun hm => ?_, fun hm => ?_, hnd⟩
    · obtain ⟨q, hq, e⟩ := List.mem_map.mp (show mw ∈ List.map (·.1) ((it, liObj (a.U k) 0) :: _) from hm)
      exact ne₃ q hq e
    · obtain ⟨q, hq, e⟩ := List.mem_map.mp hm
      exact ne₂ q hq e
  have ests : (List.toArray (lev.map fun v => Value.ref v.mw)).size ≤ sizeLine := by simp; omega
  refine Stt.appendL y₄ (upd_of [_, _, _, _, _] _ hnd3) ests fun s₅ y₅ => ?_
  clear y₄
  have eit : (List.toArray (lev.map fun v => Value.ref v.mw)).push (Value.ref mw) = List.toArray ((lev ++ [({ n := k, mw := mw, it := it, pos := 0 } : Lev)]).map fun v => Value.ref v.mw) := by simp
  rw [eit] at y₅
  have hnot : Int.ofNat k ∉ kvs.map (·.1) := fun hm => by
    rw [fc.ks] at hm
    obtain ⟨v, hv, e⟩ := List.mem_map.mp hm
    have h1 := hrk v hv
    rw [Int.ofNat.inj e] at h1
    exact Nat.lt_irrefl _ h1
  refine wpAny_execs_cons (wpAny_Assign_Subscript (Call_ ?_) hs3)
  refine ld_builtin_at y₅.fr T.g hm2 T.b ((T.builtins _ (by decide +kernel)).trans Boot.«len») ?_ hk k8 (by decide)
  refine callWith_builtin1 (args_cons (y₅.ld fm.stack (args_nil ?_) hk k1 (by decide)))
  refine len_list (items := List.toArray ts) ⟨_, (y₅.news (stk, listOf (List.toArray ts) eS) (by simp)).1, rfl, _, rfl⟩ (by rw [List.size_toArray]; omega) ?_
  have y₆ := y₅.tok (tk := s₅.toks + 1 + 1)
  refine y₆.ld fm.n2s (y₆.ld mn ?_ hk k3 (by decide)) hk k4 (by decide)
  refine y₆.dset (updF_of [_, _, _] _ (by simpa using hnd3)) fc.d (by omega) fun s₇ oD₇ y₇ hd₇ => ?_
  rw [stored_new hnot] at hd₇
  clear y₆ y₅
  refine wpAny_execs_cons (wpAny_Expr_any (MethodCall_ (y₇.ld fm.stack ?_ hk k1 (by decide))) hi hs4)
  refine y₇.lmethod (its := List.toArray ts) (n := eS) (by simp) PySem.F.slot_list_append PySem.F.type_list_append (callWith_method1 (args_cons (y₇.ld mn (args_nil ?_) hk k3 (by decide))))
  refine Stt.appendL y₇ (upd_of [_, _, _, _, _, _] _ (by simpa using hnd3)) (by rw [List.size_toArray]; omega) fun s₈ y₈ => ?_
  rw [List.push_toArray] at y₈
  clear y₇
  have hwt := wt_add (su := su) hk5 hS
  refine wpAny_execs_nil (hQ (wt su (ad S (Int.ofNat k)) + wl su (lev ++ [({ n := k, mw := mw, it := it, pos := 0 } : Lev)])) s₈ ?_ ⟨ad S (Int.ofNat k), lev ++ [({ n := k, mw := mw, it := it, pos := 0 } : Lev)], oD₇, oS₁, eI + 1, eS + 1, ts ++ [.int (Int.ofNat k) t], kvs ++ [(Int.ofNat k, .int ts.toArray.size _)], n + 1, m, rfl, ⟨?_, hd₇, ?_, hS₁, hun, ?_, ?_⟩, ?_, fm, ?_⟩)
  · rw [wl_snoc]; dsimp only; omega
  · rw [List.map_append]; exact fc.ts.append (.cons _ _ .nil)
  · rw [List.map_append, fc.ks, List.map_append]; rfl
  · rw [List.map_append, List.pairwise_append]
    refine ⟨fc.up, List.pairwise_singleton _ _, fun x hx y hy => ?_⟩
    obtain ⟨v, hv, rfl⟩ := List.mem_map.mp hx
    rw [List.mem_singleton.mp hy]
    exact hrk v hv
  · intro v hv
    rcases List.mem_append.mp hv with hv | hv
    · have := fc.lev v hv
      exact ⟨this.1, this.2.1, by unfold ad; rw [this.2.2]; rfl⟩
    · rw [List.mem_singleton.mp hv]; exact ⟨hk5, Nat.zero_le _, by simp [ad]⟩
  · have e1 : ((I, oI) :: fcL a nd sn itk stk (lev ++ [({ n := k, mw := mw, it := it, pos := 0 } : Lev)]) oD₇ oS₁ (eI + 1) (eS + 1) (ts ++ [.int (Int.ofNat k) t])).map (·.1) = (((I, oI) :: fcL a nd sn itk stk lev oD oS eI eS ts).map (·.1)) ++ [mw, it] := by
      simp [fcL, levL_snoc]
    rw [e1]
    refine (List.perm_append_comm (l₁ := [mw, it])).nodup_iff.mp ?_
    simpa [fcL] using hnd3
  · refine y₈.sub fun q hq => ?_
    simp only [fcL, levL_snoc, List.mem_cons, List.mem_append, List.not_mem_nil, or_false, List.cons_append, List.nil_append] at hq ⊢
    rcases hq with hq | hq | hq | hq | hq | hq | hq | hq <;> simp [hq]
end
end Mine
end PartFc4

section PartFc
theorem Mine.anewFc : True := by
  w_top off
  trivial
open PySem PySem.W PySem.Calls PyProof.Rows
set_option Elab.async false
set_option maxRecDepth 100000
set_option maxHeartbeats 4000000
namespace Mine
theorem fillFc : hd.heap_1 = hd.heap_1 ∧ PySem.Challenge.rw_mg0051_01 = PySem.Challenge.rw_mg0051_01 := by
  k_fill
  exact ⟨rfl, rfl⟩

theorem execs_mid {M : Model} {A : Around} {E : Value → Shared → Prop} {s : Shared} {env : Env} {st : Stmt} {rest : List Stmt} {Q : Flow → Shared → Prop} (P : Shared → Prop)
    (h1 : wpAny M A (exec st env) (fun f s' => f = .next ∧ P s') E s) (h2 : ∀ s', P s' → wpAny M A (execs rest env) Q E s') : wpAny M A (execs (st :: rest) env) Q E s :=
  wpAny_execs_cons (wpAny_mono h1 (fun f s' x => by obtain ⟨rfl, x⟩ := x; exact h2 s' x) fun _ _ x => x)
theorem valueAt_none {kvs : List (Int × Value)} {k : Int} (h : k ∉ kvs.map (·.1)) : (valueAt kvs k).isSome = false := by
  unfold valueAt
  rw [Option.isSome_map, Bool.eq_false_iff]
  intro hh
  obtain ⟨p, hp, e⟩ := List.find?_isSome.mp hh
  exact h (List.mem_map.mpr ⟨p, hp, by simpa using e⟩)
local macro_rules | `(tactic| k_inst) => `(tactic| exact Mine.InstAt.of_fz (by k_asm) (by with_reducible assumption) (by with_reducible assumption))
local macro_rules | `(tactic| walk_at "pyIter ref") => `(tactic| refine stopAt ?_)
theorem find_cycle_spec (w : World) (a : SA) (v : SV) (wf : SWf w a v) (rd pv fv : Value) (su : Nat → List Nat) (rk : Nat → Nat)
    (hsu : ∀ k < 5, IntsAre (v.su k) ((su k).map Int.ofNat) ∧ (∀ j ∈ su k, j < 5 ∧ rk k < rk j) ∧ (su k).length ≤ 100) :
    Spec w 304 13 134 [.ref a.S] [] (Fz w a v rd pv fv) (fun r pst => r = .none ∧ pst = []) := by
  intro g outer frs s R G hfz ok st hsz N off hR
  obtain ⟨mean, mg, mb, T⟩ := G.T
  have X := G.X
  have hD := wf.d
  have f1 : g.get? a.S = some ⟨.ref 144, some a.dS, .plain, #[]⟩ := hfz _ (.head _)
  have f2 : g.get? a.dS = some (sDict w a v rd pv fv) := hfz _ (.tail _ (.head _))
  have f3 : g.get? a.D = some v.oD := hfz _ (.tail _ (.tail _ (.head _)))
  refine enter X T.nolimit st hsz N (by k_is) (by k_is) (show 304 < recursionLimit by decide) (BindsTo.of_eq rfl) (locs rfl) ?_ rfl rfl rfl (by decide)
  intro L h₁ hL F N' hlt
  try dsimp only
  simp only [List.nil_append] at N'
  refine exec_then fun Q1 hQ1 => ?_
  k_steps
  refine hQ1 _ _ ?_
  clear hQ1 Q1
  dsimp only
  refine exec_then fun Q1 hQ1 => ?_
  k_steps
  refine hQ1 _ _ ?_
  clear hQ1 Q1
  dsimp only
  refine exec_then fun Q1 hQ1 => ?_
  k_steps
  refine hQ1 _ _ ?_
  clear hQ1 Q1
  dsimp only
  refine exec_then fun Q1 hQ1 => ?_
  k_steps
  refine hQ1 _ _ ?_
  clear hQ1 Q1
  dsimp only
  refine exec_then fun Q1 hQ1 => ?_
  k_steps
  refine hQ1 _ _ ?_
  clear hQ1 Q1
  dsimp only
  rename Fr _ _ _ _ => F5
  rename News _ _ _ _ => N5
  rename_i _ stk _ p1 _ itk _ p2 _ sn _ led so so2 p3 _ nd _ oD lo ds fs di fi p4 h5
  clear so so2 ds fs fi
  have hszl : (2000 : Nat) ≤ sizeLine := by rw [sizeLine_eq]; decide
  have offs : OwnOff frs [nd, sn, itk, stk] := fun p hp b hb => by
    simp only [List.mem_cons, List.not_mem_nil, or_false] at hb
    rcases hb with rfl | rfl | rfl | rfl
    · exact Nat.ne_of_lt (allLt_mem p4.2.2.2 p hp)
    · exact Nat.ne_of_lt (allLt_mem p3.2.2 p hp)
    · exact Nat.ne_of_lt (allLt_mem p2.2 p hp)
    · exact Nat.ne_of_lt (p1 p hp)
  have n4 : [nd, sn, itk, stk].Nodup := by
    have q1 : @LT.lt Nat _ stk itk := p2.1
    have q2 : @LT.lt Nat _ itk sn := p3.1
    have q3 : @LT.lt Nat _ sn nd := p4.1
    simp only [List.nodup_cons, List.mem_cons, List.not_mem_nil, or_false, not_or, not_false_eq_true, List.nodup_nil, and_true]
    refine ⟨⟨?_, ?_, ?_⟩, ⟨?_, ?_⟩, ?_⟩ <;> refine @id (@Ne Nat _ _) ?_ <;> omega
  have hset : SetO w { cls := .type "set", data := .set #[] 0 (SetTable.fresh 0 0 led) } (fun _ => false) 0 :=
    ⟨#[], 0, _, ⟨rfl, rfl, rfl⟩, rfl, fun e he => by simp at he, fun k => by simp, by decide, by cases led <;> rfl, rfl⟩
  have fc0 : FcS w a su rk nd sn itk stk (fun _ => false) [] oD { cls := .type "set", data := .set #[] 0 (SetTable.fresh 0 0 led) } 0 0 [] [] 0 :=
    ⟨.nil, di, rfl, hset, rfl, List.Pairwise.nil, fun v hv => by cases hv⟩
  have y5 := fun tk => Stt.of (s₀ := s) (tk := tk) (l := fcL a nd sn itk stk [] oD { cls := .type "set", data := .set #[] 0 (SetTable.fresh 0 0 led) } 0 0 []) (SlotsOf.refl frs) ok F5 N5 offs
  clear hset di N5
  revert fc0 y5
  generalize ({ cls := .type "set", data := .set #[] 0 (SetTable.fresh 0 0 led) } : Obj) = oS
  intro fc0 y5
  obtain ⟨ep, hDat⟩ : ∃ ep, g.DictAt (intKind PG w) a.D (n2iK a) ep := by
    obtain ⟨es, ep, r⟩ := hD
    exact ⟨ep, _, es, f3, r⟩
  refine wpAny_execs_cons (wpAny_For ?_)
  refine (y5 _).ld rfl ?_ rfl rfl (by decide)
  refine wpAny_pyIter_dict wf.lo (hDat.at' fun o e => F5.keep _ o e) ?_
  obtain ⟨y6, hne⟩ := (y5 _).push { cls := .type "dict_keyiterator", data := .fields #[.ref a.D, .int 0 0, .int (n2iK a).length 0, .int ep 0] }
  have hDI : a.D ≠ Array.size (Heap.objs _) := Nat.ne_of_lt (Heap.lt_size (F5.keep _ _ f3))
  dsimp only at y6 hne
  revert y6 hne hDI
  generalize hIdef : Array.size (Heap.objs _) = I
  intro y6 hne hDI
  refine Stt.forW (oI := { cls := .type "dict_keyiterator", data := .fields #[.ref a.D, .int 0 0, .int (n2iK a).length 0, .int ep 0] }) (Walks.dictKeys (knd := intKind PG w) rfl I a.D hDI (n2iK a) ep) (fun i h x => let ⟨o, e, _⟩ := x.1; ⟨o, e⟩)
    (fun i m' l' => ∃ S oD oS eI eS n, FcS w a su rk nd sn itk stk S [] oD oS eI eS [] [] n ∧ l' = fcL a nd sn itk stk [] oD oS eI eS [] ∧
      FcM a nd sn itk stk m')
    y6 hne ?hst ?h0 ?hsrc ?turn ?done (fun _ => rfl)
  case hst => exact ⟨⟨_, (y6.news _ (.head _)).1, rfl, rfl⟩, hDat.at' fun o e => y6.fr.keep _ o e⟩
  case h0 => exact ⟨_, _, _, _, _, _, fc0, rfl, rfl, rfl, rfl, rfl, rfl⟩
  case hsrc =>
    intro b hb hbI
    have hb' : b = a.D := by simpa [hbI] using hb
    subst hb'
    exact ⟨_, fun i m₁ l₁ s₁ oI' _ y => y.fr.keep _ _ f3⟩
  case done =>
    rintro m' l' s' ⟨S, oD, oS, eI, eS, n, fc, rfl, -⟩ - y'
    have y7 := y'.sub (l' := []) (fun p hp => by cases hp)
    obtain ⟨h7, tk7, frs7, rfl, sl7, ok7, F7, N7, off7⟩ := y7
    k_steps
    exact hR _ _ _ frs7 [] ⟨rfl, rfl⟩ sl7 F7.keep (fun p hp => ⟨(N7 p hp).1, (N7 p hp).2.2⟩) off7
  case turn =>
    rintro i val m₁ l₁ s₁ oI hi ⟨key, kv, hkey, hP⟩ ⟨S, oD, oS, eI, eS, n, fc, rfl, fm⟩ hl₁ y
    refine turn_veil fun QT EQT hQT hEQT => ?_
    obtain ⟨k, hk5, rfl⟩ : ∃ k, k < 5 ∧ key = Int.ofNat k := by
      clear hP y fc fm hl₁
      match i, hi with
      | 0, _ => cases hkey; exact ⟨4, by decide, rfl⟩
      | 1, _ => cases hkey; exact ⟨3, by decide, rfl⟩
      | 2, _ => cases hkey; exact ⟨2, by decide, rfl⟩
      | 3, _ => cases hkey; exact ⟨1, by decide, rfl⟩
      | 4, _ => cases hkey; exact ⟨0, by decide, rfl⟩
    obtain ⟨tv, rfl⟩ : ∃ t, val = .int (Int.ofNat k) t := Value.isInt_shape hP
    refine wpAny_assign_Name (y.st (fun s₂ y₂ => ?_) rfl rfl)
    have hnd : ((((I, oI) :: fcL a nd sn itk stk [] oD oS eI eS []).map (·.1))).Nodup := by
      refine List.nodup_cons.mpr ⟨fun hm => ?_, n4⟩
      obtain ⟨q, hq, e⟩ := List.mem_map.mp hm
      exact hl₁ q hq e
    have fm₂ := fm.put (.int (Int.ofNat k) tv)
    have mn₂ : (fun z => if z = Str.ofString "node" then some (Value.int (Int.ofNat k) tv) else m₁ z) (Str.ofString "node") = some (.int (Int.ofNat k) tv) := if_pos rfl
    clear y
    revert y₂ fm₂ mn₂
    generalize (fun z => if z = Str.ofString "node" then some (Value.int (Int.ofNat k) tv) else m₁ z) = m₂
    intro y₂ fm₂ mn₂
    refine wpAny_execs_cons (wpAny_If (wpAny_isTrue_Compare1 (y₂.ld mn₂ (y₂.ld fm₂.seen (in_set y₂.news (.tail _ (.tail _ (.head _))) fc.s (wpAny_truthy_bool ?_)) rfl rfl (by decide)) rfl rfl (by decide))))
    by_cases hS : S (Int.ofNat k) = true
    · rw [if_pos hS]
      exact wpAny_execs_cons (wpAny_Continue (hQT .cont _ ⟨m₂, _, ⟨S, oD, oS, eI, eS, n, fc, rfl, fm₂⟩, hl₁, y₂.tok⟩))
    rw [if_neg hS]
    refine wpAny_execs_nil ?_
    have fI : ∀ k < 5, g.get? (a.I k) = some (niObj (a.dI k) (a.U k) (v.np k) (v.nd k)) ∧ g.get? (a.dI k) = some (dictOf [] 0) := fun k hk => by
      have h1 := mem_ni (a := a) (v := v) (r := []) hk
      have h2 := mem_di (a := a) (v := v) (r := []) hk
      rw [List.append_nil] at h1 h2
      exact ⟨hfz _ (.tail _ (.tail _ (.tail _ h1))), hfz _ (.tail _ (.tail _ (.tail _ h2)))⟩
    have hsuF : ∀ k < 5, (∃ vs, g.IsList (a.U k) (List.toArray vs) ∧ IntsAre vs ((su k).map Int.ofNat)) ∧ (∀ j ∈ su k, j < 5 ∧ rk k < rk j) ∧ (su k).length ≤ 100 := fun k hk => by
      have h1 := mem_su (a := a) (v := v) (r := []) hk
      rw [List.append_nil] at h1
      exact ⟨⟨v.su k, ⟨_, hfz _ (.tail _ (.tail _ (.tail _ h1))), rfl, _, rfl⟩, (hsu k hk).1⟩, (hsu k hk).2.1, (hsu k hk).2.2⟩
    refine wpAny_execs_cons (wpAny_While (codeAny_whileLoop (FcI1 w g L outer frs s a su rk nd sn itk stk I oI) ?_ _ ⟨S, [], oD, oS, eI, eS, [], [], n, m₂, k, tv, rfl, fc, hnd, fm₂, mn₂, hk5, fun v hv => (by cases hv), fun _ => by simpa using hS, y₂.tok⟩))
    clear y₂ hS mn₂ fm₂ hnd hP hkey hk5 fc fm hl₁
    rintro n' s' ⟨S, lev, oD, oS, eI, eS, ts, kvs, n, m, k, t, rfl, fc, hnd, fm, mn, hk5, hrk, -, y⟩
    refine wpAny_isTrue_value (wpAny_Constant_bool (wpAny_truthy_bool ?_))
    rw [if_pos rfl]
    have hl₁ : ∀ oD oS eI eS, ∀ p ∈ fcL a nd sn itk stk [] oD oS eI eS [], p.1 ≠ I := fun oD oS eI eS p hp e => by
      rw [List.map_cons, List.nodup_cons] at hnd
      refine hnd.1 ?_
      rw [← e]
      simp only [fcL, levL, List.flatMap_nil, List.mem_cons, List.not_mem_nil, or_false] at hp
      rcases hp with rfl | rfl | rfl | rfl <;> simp
    refine execs_mid (fun s₃ => ∃ N, N ≤ wt su S + wl su lev ∧ FcI2 w g L outer frs s a su rk nd sn itk stk I oI N s₃) ?_ ?_
    · refine wpAny_If (wpAny_isTrue_Compare1 (y.ld mn (y.ld fm.seen (in_set y.news (.tail _ (.tail _ (.head _))) fc.s (wpAny_truthy_bool ?_)) rfl rfl (by decide)) rfl rfl (by decide)))
      have y₁ := fun tk => y.tok (tk := tk)
      by_cases hS : S (Int.ofNat k) = true
      · rw [if_pos hS]
        refine wpAny_execs_cons (wpAny_If (wpAny_isTrue_Compare1 ((y₁ _).ld mn ((y₁ _).ld fm.n2s (in_dict (y₁ 0).news (.tail _ (.head _)) fc.d lo (wpAny_truthy_bool ?_)) rfl rfl (by decide)) rfl rfl (by decide))))
        have hnot : Int.ofNat k ∉ kvs.map (·.1) := fun hm => by
          rw [fc.ks] at hm
          obtain ⟨v, hv, e⟩ := List.mem_map.mp hm
          have h1 := hrk v hv
          rw [Int.ofNat.inj e] at h1
          exact Nat.lt_irrefl _ h1
        rw [valueAt_none hnot, if_neg (by decide)]
        exact wpAny_execs_nil (wpAny_execs_nil ⟨rfl, _, Nat.le_refl _, S, lev, oD, oS, eI, eS, ts, kvs, n, m, rfl, fc, hnd, fm, y₁ _⟩)
      · rw [if_neg hS]
        exact fc_push rfl rfl rfl rfl rfl rfl rfl rfl rfl rfl rfl rfl rfl rfl X hD f3 fI (topRead_of T) (T.free (Str.ofString "iter") (by decide +kernel) (by decide +kernel) (by decide +kernel) (by decide +kernel) (by decide +kernel)) (T.free (Str.ofString "len") (by decide +kernel) (by decide +kernel) (by decide +kernel) (by decide +kernel) (by decide +kernel))
          hsuF fc hnd fm mn hk5 hrk (by simpa using hS) (y₁ _) fun N' s' hN' x => ⟨rfl, N', by omega, x⟩
    · rintro s₃ ⟨N, hN, x⟩
      refine wpAny_execs_cons (fc_inner rfl rfl rfl rfl rfl rfl rfl rfl rfl rfl rfl (topRead_of T) (T.free (Str.ofString "StopIteration") (by decide +kernel) (by decide +kernel) (by decide +kernel) (by decide +kernel) (by decide +kernel)) hsuF x ?_ ?_)
      · exact fun N' s' hN' x' => wpAny_execs_nil ⟨N', Nat.lt_of_lt_of_le hN' hN, x'⟩
      · exact fun S oD oS eI eS n m s' fc fm y => wpAny_execs_nil (hQT .next _ ⟨m, _, ⟨S, oD, oS, eI, eS, n, fc, rfl, fm⟩, hl₁ _ _ _ _, y⟩)
end Mine
end PartFc

section PartCm
theorem Mine.anewCm : True := by
  w_top off
  trivial
open PySem PySem.W PySem.Calls PyProof.Rows
set_option Elab.async false
set_option maxRecDepth 100000
set_option maxHeartbeats 4000000
namespace Mine

/-- s' is s but for the objects at W, and new ones -/
def KB (W : List Addr) (s s' : Shared) : Prop := ∃ h tk, s' = { s with heap := h, toks := tk } ∧ ∀ b o, b ∉ W → s.heap.get? b = some o → h.get? b = some o
theorem KB.refl (W : List Addr) (s : Shared) : KB W s s := ⟨s.heap, s.toks, rfl, fun _ _ _ e => e⟩
theorem KB.trans {W : List Addr} {a b c : Shared} (x : KB W a b) (y : KB W b c) : KB W a c := by
  obtain ⟨h, tk, rfl, k⟩ := x
  obtain ⟨h', tk', rfl, k'⟩ := y
  exact ⟨h', tk', rfl, fun b o n e => k' b o n (k b o n e)⟩
theorem KB.mono {W W' : List Addr} {a b : Shared} (x : KB W a b) (hs : ∀ z ∈ W, z ∈ W') : KB W' a b := by
  obtain ⟨h, tk, rfl, k⟩ := x
  exact ⟨h, tk, rfl, fun b o n e => k b o (fun m => n (hs b m)) e⟩
theorem KB.of {W : List Addr} {s : Shared} {h : Heap} {tk : Nat} (k : ∀ b o, b ∉ W → s.heap.get? b = some o → h.get? b = some o) : KB W s { s with heap := h, toks := tk } := ⟨h, tk, rfl, k⟩
theorem KB.at {W : List Addr} {s s' : Shared} (x : KB W s s') {b : Addr} {o : Obj} (n : b ∉ W) (e : s.heap.get? b = some o) : s'.heap.get? b = some o := by
  obtain ⟨h, tk, rfl, k⟩ := x
  exact k b o n e
theorem KB.at0 {s s' : Shared} (x : KB [] s s') {b : Addr} {o : Obj} (e : s.heap.get? b = some o) : s'.heap.get? b = some o := x.at (by simp) e
theorem KB.fresh {W : List Addr} {a b c : Shared} (x : KB [] a b) (y : KB W b c) (hW : ∀ z ∈ W, a.heap.get? z = none) : KB [] a c := by
  obtain ⟨h, tk, rfl, k⟩ := x
  obtain ⟨h', tk', rfl, k'⟩ := y
  refine ⟨h', tk', rfl, fun b o n e => k' b o (fun m => ?_) (k b o n e)⟩
  rw [hW b m] at e; cases e
theorem KB.ns {W : List Addr} {s s' : Shared} (x : KB W s s') {C : Addr} {m : Str → Option Value} (n : C ∉ W) (e : s.heap.Ns C m) : s'.heap.Ns C m := e.at' fun _ q => x.at n q

noncomputable abbrev lsO (ys : List Value) : Obj := listOf (List.toArray ys) ys.length
theorem lsO_snoc (ys : List Value) (y : Value) : listOf ((List.toArray ys).push y) (ys.length + 1) = lsO (ys ++ [y]) := by
  unfold lsO; rw [List.length_append, List.length_singleton, List.push_toArray]

noncomputable abbrev testsT (ifs : List Expr) (env : Env) : Sem Bool := forIn ifs true fun c r => if r = true then do let ok ← isTrue c env (eval c env); pure (ForInStep.yield ok) else pure (ForInStep.yield r)
noncomputable abbrev turnT (e : Expr) (d : Nat) (target iter : Expr) (ifs : List Expr) (it acc : Value) (env : Env) (rest : Sem Fin) : Sem Fin := do
  standAt iter.pos
  match ← pyNext it with
  | none => pure (.done .next)
  | some v =>
    letOwnedTupleGo target it v
    assign target env v
    let mut ok := true
    for c in ifs do
      if ok then ok ← isTrue c env (eval c env)
    if ok then
      rest
    else again (.compLoop e d it acc env)
noncomputable abbrev emitT (e : Expr) (d : Nat) (elt : Expr) (it acc : Value) (env : Env) : Sem Fin := do
  (do let _ ← call (.builtin "list.append") [acc, ← eval elt env])
  again (.compLoop e d it acc env)

theorem turn_one (elt target iter : Expr) (ifs : List Expr) (scope : Scope) (pos : Pos) (it acc : Value) (env : Env) :
    compTurn (.ListComp elt [⟨target, iter, ifs, 0⟩] scope pos) 0 it acc env = turnT (.ListComp elt [⟨target, iter, ifs, 0⟩] scope pos) 0 target iter ifs it acc env (emitT (.ListComp elt [⟨target, iter, ifs, 0⟩] scope pos) 0 elt it acc env) := by rfl
theorem turn_in (elt target iter target' iter' : Expr) (ifs ifs' : List Expr) (scope : Scope) (pos : Pos) (it acc : Value) (env : Env) :
    compTurn (.ListComp elt [⟨target, iter, ifs, 0⟩, ⟨target', iter', ifs', 0⟩] scope pos) 1 it acc env = turnT (.ListComp elt [⟨target, iter, ifs, 0⟩, ⟨target', iter', ifs', 0⟩] scope pos) 1 target' iter' ifs' it acc env (emitT (.ListComp elt [⟨target, iter, ifs, 0⟩, ⟨target', iter', ifs', 0⟩] scope pos) 1 elt it acc env) := by rfl
noncomputable abbrev innerT (e : Expr) (iter : Expr) (it acc : Value) (env : Env) : Sem Fin := do
  let x ← eval iter env
  standAt iter.pos
  let x ← foldedSetIterable iter env x
  let _ ← runOwn (.compStart e 1 (← holding [x] (pyIter x)) acc env) env
  again (.compLoop e 0 it acc env)
theorem turn_out (elt target iter target' iter' : Expr) (ifs ifs' : List Expr) (scope : Scope) (pos : Pos) (it acc : Value) (env : Env) :
    compTurn (.ListComp elt [⟨target, iter, ifs, 0⟩, ⟨target', iter', ifs', 0⟩] scope pos) 0 it acc env = turnT (.ListComp elt [⟨target, iter, ifs, 0⟩, ⟨target', iter', ifs', 0⟩] scope pos) 0 target iter ifs it acc env
      (innerT (.ListComp elt [⟨target, iter, ifs, 0⟩, ⟨target', iter', ifs', 0⟩] scope pos) iter' it acc env) := by rfl

section
variable {w : World} {A : Around} {R : Result → Shared → Prop} {s : Shared}
/-- where a comprehension's turn ends -/
def CPost (C D : Addr) (J : List Value → Prop) (s s' : Shared) : Prop := ∃ ys', KB [C, D] s s' ∧ (∃ mc, s'.heap.Ns C mc) ∧ s'.heap.get? D = some (lsO ys') ∧ J ys'

theorem cloop {elt : Expr} {gens : List Comprehension} {scope : Scope} {pos : Pos} {d : Nat} {target iter : Expr} {ifs : List Expr} {I C D : Addr} {cenv : Env} {rest : Sem Fin} {fp : List Addr} {n : Nat} {P : Nat → Value → Prop} {St : Nat → Heap → Prop} {ys0 : List Value}
    (ht : compTurn (.ListComp elt gens scope pos) d (.ref I) (.ref D) cenv = turnT (.ListComp elt gens scope pos) d target iter ifs (.ref I) (.ref D) cenv rest)
    (W : Walks PG w A I fp [I] n P St) (hC : C ∉ fp) (hD : D ∉ fp) (J : Nat → List Value → Prop) (hst : St 0 s.heap) (hn : ∃ mc, s.heap.Ns C mc) (hd : s.heap.get? D = some (lsO ys0)) (hJ : J 0 ys0)
    (turn : ∀ i v ys s' (E' : Value → Shared → Prop), i < n → P i v → J i ys → KB [I, C, D] s s' → (∃ mc, s'.heap.Ns C mc) → s'.heap.get? D = some (lsO ys) → St (i + 1) s'.heap →
      wpAny (model PG w) A (letOwnedTupleGo target (.ref I) v) (fun _ s₁ => wpAny (model PG w) A (assign target cenv v) (fun _ s₂ => wpAny (model PG w) A (testsT ifs cenv) (fun ok s₃ =>
        if ok = true then wpAny (model PG w) A rest (fun f s₄ => f = .again (.compLoop (.ListComp elt gens scope pos) d (.ref I) (.ref D) cenv) ∧ CPost C D (J (i + 1)) s' s₄) E' s₃ else CPost C D (J (i + 1)) s' s₃) E' s₂) E' s₁) E' s')
    (fin : ∀ ys s', J n ys → KB [I, C, D] s s' → (∃ mc, s'.heap.Ns C mc) → s'.heap.get? D = some (lsO ys) → R (.ok .next) s') :
    codeAny (model PG w) A (.compLoop (.ListComp elt gens scope pos) d (.ref I) (.ref D) cenv) R s := by
  have hIf : I ∈ fp := W.sub I (List.mem_singleton.mpr rfl)
  have hIC : I ≠ C := fun q => hC (q ▸ hIf)
  have hID : I ≠ D := fun q => hD (q ▸ hIf)
  refine codeAny_loop rfl (fun k s' => ∃ i ys, k = n + 1 - i ∧ i ≤ n ∧ J i ys ∧ KB [I, C, D] s s' ∧ (∃ mc, s'.heap.Ns C mc) ∧ s'.heap.get? D = some (lsO ys) ∧ St i s'.heap) ?_ (n + 1) ⟨0, ys0, rfl, Nat.zero_le _, hJ, KB.refl _ _, hn, hd, hst⟩
  rintro k s' ⟨i, ys, rfl, hi, hJi, kb, hn', hd', st⟩
  show wpAny _ A ((compTurn (.ListComp elt gens scope pos) d (.ref I) (.ref D) cenv).onRaise (fun x => do noteFrame x cenv; theTreesLotGoes x)) _ _ s'
  refine wpAny_noted ?_
  rw [ht]
  refine wpAny_bind (wpAny_standAt (wpAny_bind ?_))
  by_cases hlt : i < n
  · refine W.item i s' _ _ hlt st fun v h' tk hP st' hk => ?_
    have kb1 : KB [I] s' { s' with heap := h', toks := tk } := KB.of fun b o hb e => hk b o hb e
    have kb2 : KB [I, C, D] s { s' with heap := h', toks := tk } := kb.trans (kb1.mono fun z hz => by simp at hz; simp [hz])
    have hn2 : ∃ mc, h'.Ns C mc := let ⟨mc, q⟩ := hn'; ⟨mc, q.at' fun o e => hk C o (by simpa using Ne.symm hIC) e⟩
    have hd2 : h'.get? D = some (lsO ys) := hk D _ (by simpa using Ne.symm hID) hd'
    refine wpAny_bind (wpAny_mono (turn i v ys _ _ hlt hP hJi kb2 hn2 hd2 st') (fun _ s₁ h₁ => wpAny_bind (wpAny_mono h₁ (fun _ s₂ h₂ => wpAny_bind (wpAny_mono h₂ (fun ok s₃ h₃ => ?_) fun _ _ x => x)) fun _ _ x => x)) fun _ _ x => x)
    have fin2 : ∀ s₄, CPost C D (J (i + 1)) { s' with heap := h', toks := tk } s₄ → ∃ m, m < n + 1 - i ∧ ∃ i ys, m = n + 1 - i ∧ i ≤ n ∧ J i ys ∧ KB [I, C, D] s s₄ ∧ (∃ mc, s₄.heap.Ns C mc) ∧ s₄.heap.get? D = some (lsO ys) ∧ St i s₄.heap := by
      rintro s₄ ⟨ys', k4, n4, d4, j4⟩
      refine ⟨n + 1 - (i + 1), by omega, i + 1, ys', rfl, hlt, j4, kb2.trans (k4.mono fun z hz => by simp at hz ⊢; exact .inr hz), n4, d4, W.frame _ _ _ st' fun b hb o q => k4.at ?_ q⟩
      simp only [List.mem_cons, List.not_mem_nil, or_false, not_or]
      exact ⟨fun q => hC (q ▸ hb), fun q => hD (q ▸ hb)⟩
    cases ok with
    | false => exact wpAny_pure ⟨rfl, fin2 _ h₃⟩
    | true => exact wpAny_mono h₃ (fun f s₄ h₄ => by obtain ⟨rfl, h₄⟩ := h₄; exact ⟨rfl, fin2 _ h₄⟩) fun _ _ x => x
  · have hin : i = n := by omega
    subst hin
    refine W.done s' _ _ st fun h' tk hk => wpAny_pure ?_
    have kb1 : KB [I] s' { s' with heap := h', toks := tk } := KB.of fun b o hb e => hk b o hb e
    refine fin ys _ hJi (kb.trans (kb1.mono fun z hz => by simp at hz; simp [hz])) ?_ (hk D _ (by simpa using Ne.symm hID) hd')
    obtain ⟨mc, q⟩ := hn'
    exact ⟨mc, q.at' fun o e => hk C o (by simpa using Ne.symm hIC) e⟩

theorem cemit {e elt : Expr} {d : Nat} {it : Value} {C D : Addr} {cenv : Env} {ys : List Value} {J : List Value → Prop} {s' s₃ : Shared} {E' : Value → Shared → Prop} (hCD : C ≠ D) (k : KB [C] s' s₃) (hn : ∃ mc, s₃.heap.Ns C mc) (hd : s'.heap.get? D = some (lsO ys)) (hl : ys.length ≤ sizeLine)
    (h : wpAny (model PG w) A (eval elt cenv) (fun y s₄ => KB [] s₃ s₄ ∧ J (ys ++ [y])) E' s₃) :
    wpAny (model PG w) A (emitT e d elt it (.ref D) cenv) (fun f s₄ => f = .again (.compLoop e d it (.ref D) cenv) ∧ CPost C D J s' s₄) E' s₃ := by
  refine wpAny_bind (wpAny_bind (wpAny_mono h (fun y s₄ h₄ => ?_) fun _ _ x => x))
  obtain ⟨k4, j4⟩ := h₄
  have d4 : s₄.heap.get? D = some (lsO ys) := k4.at0 (k.at (by simpa using Ne.symm hCD) hd)
  refine wpAny_bind (append_at (hsz := by rw [List.size_toArray]; exact hl) d4 fun h5 hs5 hD5 => wpAny_pure (wpAny_pure ⟨rfl, ?_⟩))
  have k5 : KB [D] s₄ { s₄ with heap := h5, toks := s₄.toks } := KB.of fun b o hb e => hs5.extBut b o (by simpa using hb) e
  obtain ⟨mc, q⟩ := hn
  refine ⟨ys ++ [y], (k.mono fun z hz => by simp at hz; simp [hz]).trans ((k4.mono fun z hz => by cases hz).trans (k5.mono fun z hz => by simp at hz; simp [hz])), ⟨mc, ?_⟩, hD5.trans (congrArg some (lsO_snoc ys y)), j4⟩
  exact k5.ns (by simpa using hCD) (k4.ns (by simp) q)
end
end Mine
end PartCm

section PartCm2
theorem Mine.anewCm2 : True := by
  w_top off
  trivial
open PySem PySem.W PySem.Calls PyProof.Rows
set_option Elab.async false
set_option maxRecDepth 100000
set_option maxHeartbeats 4000000
namespace Mine

section
variable {w : World} {A : Around} {E : Value → Shared → Prop} {s : Shared}
theorem go_plain {tg : Expr} {v : Value} {I : Addr} {o : Obj} {n : String} {vs : Array Value} {Q : Unit → Shared → Prop} (ho : s.heap.get? I = some o) (hc : o.cls = .type n) (hd : o.data = .fields vs)
    (hn : (["enumerate", "zip", "dict_itemiterator", "dict_reverseitemiterator", "odict_iterator", "itertools.zip_longest", "itertools.pairwise"].contains n) = false) (h : Q () s) :
    wpAny (model PG w) A (letOwnedTupleGo tg (.ref I) v) Q E s := by
  have key : ∀ a : Addr, wpAny (model PG w) A (do
      let o ← load I
      match o.cls, o.data with
      | .type n, .fields vs =>
        if ["enumerate", "zip", "dict_itemiterator", "dict_reverseitemiterator", "odict_iterator", "itertools.zip_longest", "itertools.pairwise"].contains n && vs[0]? == some (rawInt a) then
          rule "for.unpacks-the-owned-tuple"
          updateField I 0 .none
      | _, _ => pure ()) Q E s := fun a => by
    refine wpAny_bind (wpAny_load ho ?_)
    rw [hc, hd]
    dsimp only
    rw [hn, Bool.false_and, if_neg Bool.false_ne_true]
    exact wpAny_pure h
  cases tg <;> cases v <;> first | exact key _ | exact wpAny_pure h

/-- what can be walked -/
def GoOk (w : World) (A : Around) (I : Addr) (St : Nat → Heap → Prop) : Prop := (∀ (tg : Expr) (v : Value) i (s' : Shared) (Q : Unit → Shared → Prop) (E : Value → Shared → Prop), St i s'.heap → Q () s' → wpAny (model PG w) A (letOwnedTupleGo tg (.ref I) v) Q E s') ∧ ∀ i h, St i h → ∃ o, h.get? I = some o
def Src (w : World) (A : Around) (xv : Value) (s : Shared) (n : Nat) (P : Nat → Value → Prop) (fs : List Addr) : Prop :=
  ∀ (Q : Value → Shared → Prop) (E : Value → Shared → Prop), (∀ I fp St h, Walks PG w A I fp [I] n P St → St 0 h → (∀ b ∈ fp, b < h.objs.size) → (∀ b ∈ fp, b = I ∨ b ∈ fs) → s.heap.get? I = none → (∀ b o, s.heap.get? b = some o → h.get? b = some o) → GoOk w A I St →
    Q (.ref I) { s with heap := h }) → wpAny (model PG w) A (pyIter xv) Q E s

theorem none_at (h : Heap) : h.get? h.objs.size = none := by
  cases q : h.get? h.objs.size with
  | none => rfl
  | some o => exact absurd (Heap.lt_size q) (Nat.lt_irrefl _)
theorem Src.list {l : Addr} {its : Array Value} (hh : A.handled = none) (hl : s.heap.IsList l its) : Src w A (.ref l) s its.size (fun i v => its[i]? = some v) [l] := fun Q E k => by
  have hlt : l < s.heap.objs.size := by obtain ⟨_, e, _⟩ := hl; exact Heap.lt_size e
  refine wpAny_pyIter_list hl (k _ _ _ _ (Walks.list hh s.heap.objs.size l (Nat.ne_of_lt hlt) its) ⟨⟨_, Heap.get?_push_size _ rfl, rfl, rfl⟩, hl.push _⟩ (fun b hb => ?_) (fun b hb => by simpa using hb) (none_at _) (fun b o e => Heap.get?_push_of_some _ e) ?_)
  · rw [push_size]
    simp only [List.mem_cons, List.not_mem_nil, or_false] at hb
    rcases hb with rfl | rfl
    · exact Nat.lt_succ_self _
    · exact Nat.lt_succ_of_lt hlt
  · refine ⟨fun tg v i s' Q E st h => ?_, fun i h st => let ⟨o, a, _⟩ := st.1; ⟨o, a⟩⟩
    obtain ⟨o, a, b, c⟩ := st.1
    exact go_plain a b c (by decide) h
theorem Src.tuple {l : Addr} {its : Array Value} (hh : A.handled = none) (hl : s.heap.IsTuple l its) : Src w A (.ref l) s its.size (fun i v => its[i]? = some v) [l] := fun Q E k => by
  have hlt : l < s.heap.objs.size := by obtain ⟨_, e, _⟩ := hl; exact Heap.lt_size e
  refine wpAny_pyIter_tuple hl (k _ _ _ _ (Walks.tuple hh s.heap.objs.size l (Nat.ne_of_lt hlt) its) ⟨⟨_, Heap.get?_push_size _ rfl, rfl, rfl⟩, hl.at fun _ e => Heap.get?_push_of_some _ e⟩ (fun b hb => ?_) (fun b hb => by simpa using hb) (none_at _) (fun b o e => Heap.get?_push_of_some _ e) ?_)
  · rw [push_size]
    simp only [List.mem_cons, List.not_mem_nil, or_false] at hb
    rcases hb with rfl | rfl
    · exact Nat.lt_succ_self _
    · exact Nat.lt_succ_of_lt hlt
  · refine ⟨fun tg v i s' Q E st h => ?_, fun i h st => let ⟨o, a, _⟩ := st.1; ⟨o, a⟩⟩
    obtain ⟨o, a, b, c⟩ := st.1
    exact go_plain a b c (by decide) h
theorem Src.range {r : Addr} {a b : Int} {t u v : Tok} {n : Nat} (hh : A.handled = none) (hr : IsRange s.heap r a b 1 t u v) (hsm : Builtin.Range.small a b 1 = true) (hn : Builtin.Range.rangeSize a b 1 = ((n : Nat) : Int)) :
    Src w A (.ref r) s n (fun i v => ∃ t, v = .int (a + (i : Int)) t) [] := fun Q E k => by
  refine wpAny_pyIter_range hr hsm (k s.heap.objs.size [s.heap.objs.size] _ _ (LCg.range_walks hh a n) ?_ (fun b hb => ?_) (fun b hb => by simpa using hb) (none_at _) (fun b o e => Heap.get?_push_of_some _ e) ?_)
  · show IsRangeIter _ _ _ _ _
    rw [hn]; simpa using Heap.get?_push_size _ rfl
  · rw [push_size, List.mem_singleton.mp hb]; exact Nat.lt_succ_self _
  · exact ⟨fun tg v i s' Q E st h => go_plain st rfl rfl (by decide) h, fun i h st => ⟨_, st⟩⟩
theorem Src.values {v d : Addr} {kvs : List (Int × Value)} {ep : Nat} (hh : A.handled = none) (hv : s.heap.IsValuesView v d) (hm : s.heap.DictAt (intKind PG w) d kvs ep) :
    Src w A (.ref v) s kvs.length (fun i x => ∃ k, kvs[i]? = some (k, x)) [d] := fun Q E k => by
  have hlt : d < s.heap.objs.size := by obtain ⟨_, _, e, _⟩ := hm; exact Heap.lt_size e
  refine wpAny_pyIter_values hv hm (k _ _ _ _ (Walks.dictValues hh s.heap.objs.size d (Nat.ne_of_lt hlt) kvs ep) ⟨⟨_, Heap.get?_push_size _ rfl, rfl, rfl⟩, hm.at' fun _ e => Heap.get?_push_of_some _ e⟩ (fun b hb => ?_) (fun b hb => by simpa using hb) (none_at _) (fun b o e => Heap.get?_push_of_some _ e) ?_)
  · rw [push_size]
    simp only [List.mem_cons, List.not_mem_nil, or_false] at hb
    rcases hb with rfl | rfl
    · exact Nat.lt_succ_self _
    · exact Nat.lt_succ_of_lt hlt
  · refine ⟨fun tg v i s' Q E st h => ?_, fun i h st => let ⟨o, a, _⟩ := st.1; ⟨o, a⟩⟩
    obtain ⟨o, a, b, c⟩ := st.1
    exact go_plain a b c (by decide) h
end

/-- a comprehension's loop at its start -/
structure CIn (w : World) (A : Around) (s₁ : Shared) (n : Nat) (P : Nat → Value → Prop) (I : Addr) (fp : List Addr) (St : Nat → Heap → Prop) (C D : Addr) (ys : List Value) (s₂ : Shared) : Prop where
  walks : Walks PG w A I fp [I] n P St
  st : St 0 s₂.heap
  hC : C ∉ fp
  hD : D ∉ fp
  hCD : C ≠ D
  fI : s₁.heap.get? I = none
  fC : s₁.heap.get? C = none
  fD : s₁.heap.get? D = none
  kb : KB [] s₁ s₂
  ns : ∃ mc, s₂.heap.Ns C mc
  d : s₂.heap.get? D = some (lsO ys)
  go : GoOk w A I St

/-- how a comprehension ends -/
def CFin (I C D : Addr) (J : List Value → Prop) (s₂ : Shared) (r : Result) (s' : Shared) : Prop := r = .ok .next ∧ ∃ ys, KB [I, C, D] s₂ s' ∧ (∃ mc, s'.heap.Ns C mc) ∧ s'.heap.get? D = some (lsO ys) ∧ J ys

section
variable {w : World} {A : Around} {E : Value → Shared → Prop} {s : Shared} {env : Env} {scope : Scope} {cl : List (Str × Addr)} {elt target iter : Expr} {ifs : List Expr} {gs : List Comprehension} {pos : Pos} {J : List Value → Prop}
theorem comp_any {use : Option (Value → Sem Unit)} {cpos : Pos} {Q : Value → Shared → Prop} (hclos : closureFor scope env = pure cl) (hcell : ∀ y ∈ scope.names, y.2 ≠ .cell) (hkind : scope.kind = .function) (hnames : ∀ y ∈ scope.names, y.2 = .local → scope.names.lookup y.1 = some .local)
    (hs : ∀ x, foldedSetIterable iter env x = pure x)
    (h : wpAny (model PG w) A (eval iter env) (fun xv s₁ => ∃ n P fs, Src w A xv s₁ n P fs ∧
      (∀ I fp St C D s₂, CIn w A s₁ n P I fp St C D [] s₂ → codeAny (model PG w) A (.compLoop (.ListComp elt (⟨target, iter, ifs, 0⟩ :: gs) scope pos) 0 (.ref I) (.ref D) (compEnvC scope cl C env)) (CFin I C D J s₂) s₂) ∧
      (∀ C D ys s', s₁.heap.get? C = none → s₁.heap.get? D = none → C ≠ D → J ys → KB [] s₁ s' → (∃ mc, s'.heap.Ns C mc) → s'.heap.get? D = some (lsO ys) → compPost (model PG w) A E use Q (.ref D) C (.ok .next) s')) E s) :
    wpAny (model PG w) A (comprehension (.ListComp elt (⟨target, iter, ifs, 0⟩ :: gs) scope pos) scope env cpos (newList []) false (eval iter env) use) Q E s := by
  refine wpAny_comprehension_free rfl hs hclos hkind hnames (wpAny_mono h (fun xv s₁ h₁ => ?_) fun _ _ x => x)
  obtain ⟨n, P, fs, hsrc, hloop, hfin⟩ := h₁
  refine hsrc _ _ fun I fp St h₂ W st hfp _ fI kp go => ?_
  refine wpAny_newObj_type (wpAny_newFunctionEnv hcell (by intro y hy; simp at hy) (fun h₁ hns₁ hsb₁ => ?_) hkind)
  dsimp only at hns₁ hsb₁ ⊢
  generalize hH2 : h₂.push { cls := .type "list", dict := none, data := .seq ([] : List Value).toArray } = H2 at hns₁ hsb₁ ⊢
  have hC : H2.objs.size = h₂.objs.size + 1 := by rw [← hH2, push_size]
  have hDC : h₂.objs.size ≠ H2.objs.size := by rw [hC]; exact Nat.ne_of_lt (Nat.lt_succ_self _)
  have below : ∀ b, b < h₂.objs.size → b ≠ H2.objs.size ∧ b ≠ h₂.objs.size := fun b hb => ⟨by rw [hC]; exact Nat.ne_of_lt (Nat.lt_succ_of_lt hb), Nat.ne_of_lt hb⟩
  have old : ∀ b o, h₂.get? b = some o → h₁.get? b = some o := fun b o e => hsb₁.extBut b o (below b (Heap.lt_size e)).1 (Heap.get?_push_of_some _ (hH2 ▸ Heap.get?_push_of_some _ e))
  have fresh : ∀ a, h₂.objs.size ≤ a → s₁.heap.get? a = none := fun a ha => by
    cases e : s₁.heap.get? a with
    | none => rfl
    | some o' => exact absurd (Heap.lt_size (kp _ _ e)) (Nat.not_lt.mpr ha)
  have loop : ∀ s₃ : Shared, s₃ = { s₁ with heap := h₁, toks := s₁.toks + ([] : List (Str × Value)).length } →
      codeAny (model PG w) A (.compLoop (.ListComp elt (⟨target, iter, ifs, 0⟩ :: gs) scope pos) 0 (.ref I) (.ref h₂.objs.size) (compEnvC scope cl H2.objs.size env))
        (compPost (model PG w) A E use Q (.ref h₂.objs.size) H2.objs.size) s₃ := by
    rintro s₃ rfl
    have kb : KB [] s₁ { s₁ with heap := h₁, toks := s₁.toks + ([] : List (Str × Value)).length } := KB.of fun b o _ e => old b o (kp b o e)
    have c : CIn w A s₁ n P I fp St H2.objs.size h₂.objs.size [] { s₁ with heap := h₁, toks := s₁.toks + ([] : List (Str × Value)).length } :=
      ⟨W, W.frame _ _ _ st fun b _ o e => old b o e, fun hm => by have := hfp _ hm; rw [hC] at this; exact Nat.lt_irrefl _ (Nat.lt_of_succ_lt this), fun hm => Nat.lt_irrefl _ (hfp _ hm), Ne.symm hDC, fI, fresh _ (by rw [hC]; exact Nat.le_succ _), fresh _ (Nat.le_refl _), kb, ⟨_, hns₁⟩,
        hsb₁.extBut _ _ hDC (Heap.get?_push_of_some _ (hH2 ▸ Heap.get?_push_size _ rfl)), go⟩
    refine codeAny_mono (hloop _ _ _ _ _ _ c) fun r s' hr => ?_
    obtain ⟨rfl, ys, k', n', d', j'⟩ := hr
    refine hfin _ _ ys s' c.fC c.fD c.hCD j' (kb.fresh k' fun z hz => ?_) n' d'
    simp only [List.mem_cons, List.not_mem_nil, or_false] at hz
    rcases hz with rfl | rfl | rfl
    · exact c.fI
    · exact c.fC
    · exact c.fD
  have hst₁ : St 0 h₁ := W.frame _ _ _ st fun b _ o e => old b o e
  exact codeAny_compStart_list (loop _ rfl) (W.self 0 _ _ _ hst₁ (loop _ rfl))
end
end Mine
end PartCm2

section PartCm3
theorem Mine.anewCm3 : True := by
  w_top off
  trivial
open PySem PySem.W PySem.Calls PyProof.Rows
set_option Elab.async false
set_option maxRecDepth 100000
set_option maxHeartbeats 4000000
namespace Mine

section
variable {w : World} {A : Around} {E : Value → Shared → Prop} {s : Shared} {env : Env} {scope : Scope} {cl : List (Str × Addr)} {C : Addr}
theorem cput {x : Str} {px : Pos} {v : Value} {mc : Str → Option Value} {Q : Unit → Shared → Prop} (hx : scope.names.lookup x = some .local) (hk : scope.kind = .function) (hn : s.heap.Ns C mc)
    (h : ∀ s', KB [C] s s' → s'.heap.Ns C (fun z => if z = x then some v else mc z) → Q () s') : wpAny (model PG w) A (assign (.Name x px) (compEnvC scope cl C env) v) Q E s := by
  refine wpAny_assign_Name (wpAny_storeName_local (lookup_relabel_local hx) hn (fun h' hn' hs' => ?_) (by simp [compEnvC, relabel, hk]))
  exact h _ (KB.of fun b o hb e => hs'.extBut b o (fun q => hb (List.mem_singleton.mpr q)) e) hn'
theorem cput3 {x y z : Str} {px py pz tp : Pos} {kt : Nat} {a b c : Value} {T : Addr} {mc : Str → Option Value} {Q : Unit → Shared → Prop} (hh : A.handled = none) (hx : scope.names.lookup x = some .local) (hy : scope.names.lookup y = some .local) (hz : scope.names.lookup z = some .local) (hk : scope.kind = .function)
    (hn : s.heap.Ns C mc) (ht : s.heap.IsTuple T #[a, b, c])
    (h : ∀ s', KB [C] s s' → s'.heap.Ns C (fun u => if u = z then some c else if u = y then some b else if u = x then some a else mc u) → Q () s') :
    wpAny (model PG w) A (assign (.Tuple [.Name x px, .Name y py, .Name z pz] kt tp) (compEnvC scope cl C env) (.ref T)) Q E s := by
  refine wpAny_assign_Tuple hh ht rfl rfl fun h' ext => ?_
  have k0 : KB [C] s { s with heap := h' } := KB.of (tk := s.toks) fun b o hb e => ext b o (Nat.ne_of_lt (Heap.lt_size e)) e
  have hn0 : h'.Ns C mc := hn.at' fun o e => ext C o (Nat.ne_of_lt (Heap.lt_size e)) e
  show wpAny _ _ (assignInOrder [_, _, _] [a, b, c]) _ _ _
  refine assignInOrder_cons (cput hx hk hn0 fun s₁ k₁ n₁ => ?_)
  refine assignInOrder_cons (cput hy hk n₁ fun s₂ k₂ n₂ => ?_)
  refine assignInOrder_cons (cput hz hk n₂ fun s₃ k₃ n₃ => ?_)
  exact assignInOrder_nil (h _ (k0.trans (k₁.trans (k₂.trans k₃))) n₃)

theorem start_in {elt target iter target' iter' : Expr} {ifs ifs' : List Expr} {pos : Pos} {it acc : Value} {R : Result → Shared → Prop} {env : Env}
    (h0 : codeAny (model PG w) A (.compLoop (.ListComp elt [⟨target, iter, ifs, 0⟩, ⟨target', iter', ifs', 0⟩] scope pos) 1 it acc env) R s)
    (h : wpAny (model PG w) A (pyIter it) (fun it' s' => codeAny (model PG w) A (.compLoop (.ListComp elt [⟨target, iter, ifs, 0⟩, ⟨target', iter', ifs', 0⟩] scope pos) 1 it' acc env) R s')
      (notedBy (model PG w) A env fun x s' => R (.error x) s') s) :
    codeAny (model PG w) A (.compStart (.ListComp elt [⟨target, iter, ifs, 0⟩, ⟨target', iter', ifs', 0⟩] scope pos) 1 it acc env) R s := by
  refine codeAny_of_tree ?_
  show wpAny _ _ ((compStart (.ListComp elt [⟨target, iter, ifs, 0⟩, ⟨target', iter', ifs', 0⟩] scope pos) 1 it acc env).onRaise (fun x => do noteFrame x env; standAt theWindowsPlace)) _ _ s
  refine wpAny_notedAt ?_
  unfold compStart
  show wpAny _ _ (ask >>= _) _ _ s
  refine wpAny_bind (wpAny_askSetting (wpAny_ite ?_))
  split
  · first
      | exact wpAny_bind (wpAny_pure (wpAny_pure (And.intro rfl h0)))
      | exact wpAny_pure (And.intro rfl h0)
  · first
      | exact wpAny_bind (wpAny_rule (wpAny_bind (wpAny_standAt (wpAny_bind (wpAny_mono h (fun it' s' h' => wpAny_pure (And.intro rfl h')) fun _ _ x => x)))))
      | (refine wpAny_bind (wpAny_rule ?_); show wpAny _ _ (standAt iter'.pos >>= _) _ _ s; exact wpAny_bind (wpAny_standAt (wpAny_bind (wpAny_mono h (fun it' s' h' => wpAny_pure (And.intro rfl h')) fun _ _ x => x))))

variable {s₁ s₂ : Shared} {n : Nat} {P : Nat → Value → Prop} {I : Addr} {fp : List Addr} {St : Nat → Heap → Prop} {D : Addr} {elt target iter : Expr} {ifs : List Expr} {pos : Pos} {ys0 : List Value}
theorem CIn.up (c : CIn w A s₁ n P I fp St C D ys0 s₂) {s' : Shared} (k : KB [I, C, D] s₂ s') : KB [] s₁ s' := c.kb.fresh k fun z hz => by
  simp only [List.mem_cons, List.not_mem_nil, or_false] at hz
  rcases hz with rfl | rfl | rfl
  · exact c.fI
  · exact c.fC
  · exact c.fD

/-- a loop that emits -/
theorem CIn.emits {gens : List Comprehension} {d : Nat} (c : CIn w A s₁ n P I fp St C D ys0 s₂) (J : Nat → List Value → Prop) (hJ : J 0 ys0) (hl : ∀ i ys, J i ys → ys.length ≤ sizeLine)
    (ht : compTurn (.ListComp elt gens scope pos) d (.ref I) (.ref D) (compEnvC scope cl C env) = turnT (.ListComp elt gens scope pos) d target iter ifs (.ref I) (.ref D) (compEnvC scope cl C env) (emitT (.ListComp elt gens scope pos) d elt (.ref I) (.ref D) (compEnvC scope cl C env)))
    (turn : ∀ i v ys s' mc (E' : Value → Shared → Prop), i < n → P i v → J i ys → KB [] s₁ s' → KB [I, C, D] s₂ s' → s'.heap.Ns C mc →
      wpAny (model PG w) A (assign target (compEnvC scope cl C env) v) (fun _ s₄ => KB [C] s' s₄ ∧ (∃ mc, s₄.heap.Ns C mc) ∧ wpAny (model PG w) A (testsT ifs (compEnvC scope cl C env)) (fun ok s₅ => KB [] s₄ s₅ ∧
        if ok = true then wpAny (model PG w) A (eval elt (compEnvC scope cl C env)) (fun y s₆ => KB [] s₅ s₆ ∧ J (i + 1) (ys ++ [y])) E' s₅ else J (i + 1) ys) E' s₄) E' s') :
    codeAny (model PG w) A (.compLoop (.ListComp elt gens scope pos) d (.ref I) (.ref D) (compEnvC scope cl C env)) (CFin I C D (J n) s₂) s₂ := by
  refine cloop ht c.walks c.hC c.hD J c.st c.ns c.d hJ ?_ fun ys s' j k n' d' => ⟨rfl, ys, k, n', d', j⟩
  rintro i v ys s' E' hi hP hJi kb ⟨mc, hn⟩ hd st
  refine c.go.1 _ _ _ _ _ _ st (wpAny_mono (turn i v ys s' mc E' hi hP hJi (c.up kb) kb hn) (fun _ s₄ h₄ => ?_) fun _ _ x => x)
  obtain ⟨k4, ⟨mc4, n4⟩, h₄⟩ := h₄
  refine wpAny_mono h₄ (fun ok s₅ h₅ => ?_) fun _ _ x => x
  obtain ⟨k5, h₅⟩ := h₅
  have k45 := k4.trans (k5.mono (W' := [C]) fun z hz => by cases hz)
  cases ok with
  | false =>
    exact ⟨ys, k45.mono fun z hz => by simp at hz; simp [hz], ⟨mc4, k5.ns (by simp) n4⟩, k45.at (by simpa using Ne.symm c.hCD) hd, h₅⟩
  | true => exact cemit c.hCD k45 ⟨mc4, k5.ns (by simp) n4⟩ hd (hl _ _ hJi) h₅

/-- a loop around another -/
theorem CIn.nests {target' iter' : Expr} {ifs' : List Expr} (c : CIn w A s₁ n P I fp St C D ys0 s₂) (J : Nat → List Value → Prop) (hJ : J 0 ys0)
    (hs : ∀ x, foldedSetIterable iter' (compEnvC scope cl C env) x = pure x)
    (turn : ∀ i v ys s' mc (E' : Value → Shared → Prop), i < n → P i v → J i ys → KB [] s₁ s' → s'.heap.Ns C mc →
      wpAny (model PG w) A (assign target (compEnvC scope cl C env) v) (fun _ s₄ => KB [C] s' s₄ ∧ (∃ mc, s₄.heap.Ns C mc) ∧ wpAny (model PG w) A (testsT ifs (compEnvC scope cl C env)) (fun ok s₅ => KB [] s₄ s₅ ∧
        if ok = true then wpAny (model PG w) A (eval iter' (compEnvC scope cl C env)) (fun xv s₆ => KB [] s₅ s₆ ∧ ∃ n' P' fs, Src w A xv s₆ n' P' fs ∧ (∀ b ∈ fs, ∃ o, s₁.heap.get? b = some o) ∧
          ∀ I' fp' St' s₇, CIn w A s₁ n' P' I' fp' St' C D ys s₇ → KB [] s₆ s₇ → codeAny (model PG w) A (.compLoop (.ListComp elt [⟨target, iter, ifs, 0⟩, ⟨target', iter', ifs', 0⟩] scope pos) 1 (.ref I') (.ref D) (compEnvC scope cl C env)) (CFin I' C D (J (i + 1)) s₇) s₇) E' s₅
        else J (i + 1) ys) E' s₄) E' s') :
    codeAny (model PG w) A (.compLoop (.ListComp elt [⟨target, iter, ifs, 0⟩, ⟨target', iter', ifs', 0⟩] scope pos) 0 (.ref I) (.ref D) (compEnvC scope cl C env)) (CFin I C D (J n) s₂) s₂ := by
  refine cloop (turn_out ..) c.walks c.hC c.hD J c.st c.ns c.d hJ ?_ fun ys s' j k n' d' => ⟨rfl, ys, k, n', d', j⟩
  rintro i v ys s' E' hi hP hJi kb ⟨mc, hn⟩ hd st
  refine c.go.1 _ _ _ _ _ _ st (wpAny_mono (turn i v ys s' mc E' hi hP hJi (c.up kb) hn) (fun _ s₄ h₄ => ?_) fun _ _ x => x)
  obtain ⟨k4, ⟨mc4, n4⟩, h₄⟩ := h₄
  refine wpAny_mono h₄ (fun ok s₅ h₅ => ?_) fun _ _ x => x
  obtain ⟨k5, h₅⟩ := h₅
  have k45 := k4.trans (k5.mono (W' := [C]) fun z hz => by cases hz)
  cases ok with
  | false =>
    exact ⟨ys, k45.mono fun z hz => by simp at hz; simp [hz], ⟨mc4, k5.ns (by simp) n4⟩, k45.at (by simpa using Ne.symm c.hCD) hd, h₅⟩
  | true =>
    refine wpAny_bind (wpAny_mono h₅ (fun xv s₆ h₆ => ?_) fun _ _ x => x)
    obtain ⟨k6, n', P', fs, hsrc, hfs, hloop⟩ := h₆
    refine wpAny_bind (wpAny_standAt (wpAny_bind (wpAny_of_eq (hs xv) (wpAny_bind (wpAny_holding ?_)))))
    refine hsrc _ _ fun I' fp' St' h₇ W' st' hfp' hfp2 fI' kp' go' => ?_
    refine wpAny_bind (wpAny_runOwn ?_)
    have k46 := k45.trans (k6.mono (W' := [C]) fun z hz => by cases hz)
    have d6 : s₆.heap.get? D = some (lsO ys) := k46.at (by simpa using Ne.symm c.hCD) hd
    have n6 : s₆.heap.Ns C mc4 := k6.ns (by simp) (k5.ns (by simp) n4)
    have k67 : KB [] s₆ { s₆ with heap := h₇ } := KB.of (tk := s₆.toks) fun b o _ e => kp' b o e
    have k17 : KB [] s₁ { s₆ with heap := h₇ } := by
      have k16 : KB [] s₁ s₆ := (c.up kb).fresh k46 fun z hz => by rw [List.mem_singleton.mp hz]; exact c.fC
      exact k16.trans k67
    have nC : C ∉ fp' := fun hm => by
      rcases hfp2 C hm with e | hm
      · obtain ⟨o, es, ep, q, _⟩ := n6; rw [e, fI'] at q; cases q
      · obtain ⟨o, q⟩ := hfs C hm; rw [c.fC] at q; cases q
    have nD : D ∉ fp' := fun hm => by
      rcases hfp2 D hm with e | hm
      · rw [e, fI'] at d6; cases d6
      · obtain ⟨o, q⟩ := hfs D hm; rw [c.fD] at q; cases q
    have fI1 : s₁.heap.get? I' = none := by
      cases q : s₁.heap.get? I' with
      | none => rfl
      | some o =>
        have k16 : KB [] s₁ s₆ := (c.up kb).fresh k46 fun z hz => by rw [List.mem_singleton.mp hz]; exact c.fC
        rw [k16.at0 q] at fI'; cases fI'
    have cc : CIn w A s₁ n' P' I' fp' St' C D ys { s₆ with heap := h₇ } := ⟨W', st', nC, nD, c.hCD, fI1, c.fC, c.fD, k17, ⟨mc4, k67.ns (by simp) n6⟩, k67.at0 d6, go'⟩
    have loop : codeAny (model PG w) A (.compLoop (.ListComp elt [⟨target, iter, ifs, 0⟩, ⟨target', iter', ifs', 0⟩] scope pos) 1 (.ref I') (.ref D) (compEnvC scope cl C env))
        (fun r s₈ => match r with | .ok f => (fun f s₈ => wpAny (model PG w) A (again (.compLoop (.ListComp elt [⟨target, iter, ifs, 0⟩, ⟨target', iter', ifs', 0⟩] scope pos) 0 (.ref I) (.ref D) (compEnvC scope cl C env))) (fun f s₄ => f = .again (.compLoop (.ListComp elt [⟨target, iter, ifs, 0⟩, ⟨target', iter', ifs', 0⟩] scope pos) 0 (.ref I) (.ref D) (compEnvC scope cl C env)) ∧ CPost C D (J (i + 1)) s' s₄) E' s₈) f s₈ | .error e => cameBackBy (model PG w) A (compEnvC scope cl C env) E' e s₈) { s₆ with heap := h₇ } := by
      refine codeAny_mono (hloop I' fp' St' _ cc k67) fun r s₈ hr => ?_
      obtain ⟨rfl, ys', k8, n8, d8, j8⟩ := hr
      refine wpAny_pure ⟨rfl, ys', ?_, n8, d8, j8⟩
      obtain ⟨h6, tk6, rfl, q6⟩ := k46
      obtain ⟨h8, tk8, rfl, q8⟩ := k8
      refine ⟨h8, tk8, rfl, fun b o hb e => q8 b o (fun hm => ?_) (kp' b o (q6 b o (fun hm => hb ?_) e))⟩
      · simp only [List.mem_cons, List.not_mem_nil, or_false, not_or] at hm hb
        rcases hm with rfl | rfl | rfl
        · have e6 := q6 b o (by simpa using hb.1) e
          rw [fI'] at e6; cases e6
        · exact hb.1 rfl
        · exact hb.2 rfl
      · rw [List.mem_singleton.mp hm]; exact .head _
    exact start_in loop (W'.self 0 _ _ _ st' loop)
end
end Mine
end PartCm3

section PartCm4
theorem Mine.anewCm4 : True := by
  w_top off
  trivial
open PySem PySem.W PySem.Calls PyProof.Rows
set_option Elab.async false
set_option maxRecDepth 100000
set_option maxHeartbeats 4000000
namespace Mine

section
variable {g : Heap} {L : Addr} {outer : List Env} {frs0 l l' : List (Addr × Obj)} {s₀ s s' s₁ : Shared} {m : Str → Option Value}
  {w : World} {A : Around} {E : Value → Shared → Prop} {D : Addr} {o : Obj}
theorem Stt.kb (y : Stt g L outer frs0 s₀ m l s) (k : KB [] s s') : Stt g L outer frs0 s₀ m l s' := by
  obtain ⟨h, tk, rfl, k⟩ := k
  exact y.grow fun b o e => k b o (by simp) e
theorem Stt.add (y : Stt g L outer frs0 s₀ m l s) (fD : s.heap.get? D = none) (k : KB [] s s') (d : s'.heap.get? D = some o) : Stt g L outer frs0 s₀ m ((D, o) :: l) s' ∧ ∀ p ∈ l, p.1 ≠ D := by
  have y' := y.kb k
  obtain ⟨h0, tk0, frs0', rfl, sl0, ok0, F0, N0, off0⟩ := y
  obtain ⟨h, tk, frs, rfl, sl, ok, F, N, off⟩ := y'
  have nL : D ≠ L := fun q => by
    obtain ⟨oL, es, ep, e, _⟩ := F0.ns
    rw [q, e] at fD; cases fD
  have ng : g.get? D = none := by
    cases q : g.get? D with
    | none => rfl
    | some o => rw [F0.keep _ _ q] at fD; cases fD
  have hf0 : ∀ p ∈ frs0', p.1 ≠ D := fun p hp q => by rw [← q, (N0 p (List.mem_append_right _ hp)).1] at fD; cases fD
  have hf : ∀ p ∈ frs, p.1 ≠ D := fun p hp q => by
    have : p.1 ∈ frs.map (·.1) := List.mem_map_of_mem hp
    rw [sl.fst, ← sl0.fst] at this
    obtain ⟨p', hp', e⟩ := List.mem_map.mp this
    exact hf0 p' hp' (e.trans q)
  refine ⟨⟨h, tk, frs, rfl, sl, ok, F, fun p hp => ?_, fun p hp b hb => ?_⟩, fun p hp q => by rw [← q, (N0 p (List.mem_append_left _ hp)).1] at fD; cases fD⟩
  · rcases List.mem_cons.mp hp with rfl | hp
    · exact ⟨d, nL, ng⟩
    · exact N p hp
  · rcases List.mem_cons.mp hb with rfl | hb
    · exact hf p hp
    · exact off p hp b hb

variable {name : Str} {fscope : Scope} {fa : Addr} {cd : Value} {fcl : List (Str × Addr)}
theorem Stt.ldX {x : Str} {pos : Pos} {v : Value} {Q : Value → Shared → Prop} (y : Stt g L outer frs0 s₀ m l s) (hv : m x = some v) (h : Q v s)
    (hk : fscope.kind = .function := by rfl) (hl : (envX name fscope L fa cd fcl).kindOf x = some .local := by rfl) (hd : (x == ("__debug__" : Str)) = false := by decide) :
    wpAny (model PG w) A (eval (.Name x pos) (envX name fscope L fa cd fcl)) Q E s := nameX_L y.fr hv h hk hl hd
theorem Stt.ldC {x : Str} {pos : Pos} {v : Value} {c : Addr} {o : Obj} {Q : Value → Shared → Prop} (y : Stt g L outer frs0 s₀ m l s) (hc : fcl.lookup x = some c) (hm : (c, o) ∈ l) (hd : o.data = .cell (some v)) (h : Q v s)
    (hk : fscope.kind = .function := by rfl) (hx : (envX name fscope L fa cd fcl).kindOf x = some .cell := by rfl) (hb : (x == ("__debug__" : Str)) = false := by decide) :
    wpAny (model PG w) A (eval (.Name x pos) (envX name fscope L fa cd fcl)) Q E s := nameX_C y.news hc hm hd h hk hx hb
theorem Stt.stX {x : Str} {v : Value} {Q : Unit → Shared → Prop} (y : Stt g L outer frs0 s₀ m l s) (h : ∀ s', KB [L] s s' → Stt g L outer frs0 s₀ (fun z => if z = x then some v else m z) l s' → Q () s')
    (hk : fscope.kind = .function := by rfl) (hl : (envX name fscope L fa cd fcl).kindOf x = some .local := by rfl) :
    wpAny (model PG w) A (storeName (envX name fscope L fa cd fcl) x v) Q E s := by
  obtain ⟨h', tk', frs, rfl, sl, ok, F, N, off⟩ := y
  refine wpAny_storeName_local hl F.ns (fun h₂ hn hs => h _ (KB.of fun b o hb e => hs.extBut b o (fun q => hb (List.mem_singleton.mpr q)) e) ⟨h₂, _, frs, rfl, sl, ok, F.set hn hs, N.set hs, off⟩) (by show (fscope.kind == .class || (fscope.kind == .module && L != mainGlobals)) = false; rw [hk]; rfl)
theorem Stt.stC {x : Str} {v : Value} {v₀ : Option Value} {c : Addr} {o : Obj} {u : Obj → List (Addr × Obj)} {Q : Unit → Shared → Prop} (y : Stt g L outer frs0 s₀ m l s) (hc : fcl.lookup x = some c) (U : UpdF c o l u) (hd : o.data = .cell v₀)
    (h : ∀ s' o', Stt g L outer frs0 s₀ m (u o') s' → o'.data = .cell (some v) → Q () s')
    (hk : fscope.kind = .function := by rfl) (hx : (envX name fscope L fa cd fcl).kindOf x = some .cell := by rfl) : wpAny (model PG w) A (storeName (envX name fscope L fa cd fcl) x v) Q E s := by
  obtain ⟨h', tk', frs, rfl, sl, ok, F, N, off⟩ := y
  exact storeX_C F N hc (updF_app U fun p hp => off p hp c (List.mem_map_of_mem (updF_in U))) hd (fun h₂ o' F₂ N₂ hd' => h _ o' ⟨h₂, _, frs, rfl, sl, ok, F₂, N₂, by rw [updF_fst U]; exact off⟩ hd') hk hx

variable {env : Env} {scope : Scope} {cl : List (Str × Addr)} {elt target iter : Expr} {ifs : List Expr} {gs : List Comprehension} {pos : Pos}
theorem KB.same {C : Addr} {h' : Heap} (hs : Heap.SameBut C s.heap h') : KB [C] s { s with heap := h' } := KB.of (tk := s.toks) fun b o hb e => hs.extBut b o (fun q => hb (List.mem_singleton.mpr q)) e

/-- what a comprehension's first iterable must come to -/
inductive CSrc (w : World) (A : Around) (env : Env) (scope : Scope) (cl : List (Str × Addr)) (elt target iter : Expr) (ifs : List Expr) (gs : List Comprehension) (pos : Pos) (J : List Value → Prop) (Q : Value → Shared → Prop) (xv : Value) (s₁ : Shared) : Prop
  | mk (n : Nat) (P : Nat → Value → Prop) (fs : List Addr) (src : Src w A xv s₁ n P fs)
    (loop : ∀ I fp St C D s₂, CIn w A s₁ n P I fp St C D [] s₂ → codeAny (model PG w) A (.compLoop (.ListComp elt (⟨target, iter, ifs, 0⟩ :: gs) scope pos) 0 (.ref I) (.ref D) (compEnvC scope cl C env)) (CFin I C D J s₂) s₂)
    (fin : ∀ D ys s', J ys → KB [] s₁ s' → s₁.heap.get? D = none → s'.heap.get? D = some (lsO ys) → Q (.ref D) s') : CSrc w A env scope cl elt target iter ifs gs pos J Q xv s₁
theorem compE {J : List Value → Prop} {Q : Value → Shared → Prop} (hclos : closureFor scope env = pure cl) (hcell : ∀ y ∈ scope.names, y.2 ≠ .cell) (hkind : scope.kind = .function) (hnames : ∀ y ∈ scope.names, y.2 = .local → scope.names.lookup y.1 = some .local)
    (hs : ∀ x, foldedSetIterable iter env x = pure x)
    (h : wpAny (model PG w) A (eval iter env) (CSrc w A env scope cl elt target iter ifs gs pos J Q) E s) :
    wpAny (model PG w) A (eval (.ListComp elt (⟨target, iter, ifs, 0⟩ :: gs) scope pos) env) Q E s := by
  rw [eval_ListComp]
  refine comp_any (J := J) (use := none) hclos hcell hkind hnames hs (wpAny_mono h (fun xv s₁ h₁ => ?_) fun _ _ x => x)
  obtain ⟨n, P, fs, hsrc, hloop, hfin⟩ := h₁
  refine ⟨n, P, fs, hsrc, hloop, fun C D ys s' fC fD hCD hJ kb ⟨mc, ns⟩ d => ⟨mc, ns, fun h' hs' => ?_⟩⟩
  refine hfin D ys _ hJ (kb.fresh (KB.same hs') fun z hz => by rw [List.mem_singleton.mp hz]; exact fC) fD ?_
  exact hs'.extBut _ _ (Ne.symm hCD) d

theorem compA {J : List Value → Prop} {x : Str} {px spos : Pos} {Q : Flow → Shared → Prop} (hsw : swapsWith (.ListComp elt (⟨target, iter, ifs, 0⟩ :: gs) scope pos) (some (.Name x px)) spos.line (envX name fscope L fa cd fcl) = pure true)
    (hclos : closureFor scope (envX name fscope L fa cd fcl) = pure cl) (hcell : ∀ y ∈ scope.names, y.2 ≠ .cell) (hkind : scope.kind = .function) (hnames : ∀ y ∈ scope.names, y.2 = .local → scope.names.lookup y.1 = some .local)
    (hs : ∀ x, foldedSetIterable iter (envX name fscope L fa cd fcl) x = pure x) (hk : fscope.kind = .function) (hl : (envX name fscope L fa cd fcl).kindOf x = some .local)
    (h : wpAny (model PG w) A (eval iter (envX name fscope L fa cd fcl)) (fun xv s₁ => ∃ m l n P fs, Stt g L outer frs0 s₀ m l s₁ ∧ Src w A xv s₁ n P fs ∧
      (∀ I fp St C D s₂, CIn w A s₁ n P I fp St C D [] s₂ → codeAny (model PG w) A (.compLoop (.ListComp elt (⟨target, iter, ifs, 0⟩ :: gs) scope pos) 0 (.ref I) (.ref D) (compEnvC scope cl C (envX name fscope L fa cd fcl))) (CFin I C D J s₂) s₂) ∧
      (∀ D ys s', J ys → KB [L] s₁ s' → Stt g L outer frs0 s₀ (fun z => if z = x then some (.ref D) else m z) ((D, lsO ys) :: l) s' → (∀ p ∈ l, p.1 ≠ D) → Q .next s')) E s) :
    wpAny (model PG w) A (exec (.Assign [.Name x px] (.ListComp elt (⟨target, iter, ifs, 0⟩ :: gs) scope pos) spos) (envX name fscope L fa cd fcl)) Q E s := by
  rw [exec_Assign_Name_used _ _ _ _ hsw]
  refine wpAny_bind (wpAny_standAt (wpAny_bind ?_))
  show wpAny _ A (do let _ ← comprehension (.ListComp elt (⟨target, iter, ifs, 0⟩ :: gs) scope pos) scope (envX name fscope L fa cd fcl) _ (newList []) false (eval iter (envX name fscope L fa cd fcl)) (some (assign (.Name x px) (envX name fscope L fa cd fcl)))) _ _ s
  refine wpAny_bind (wpAny_mono (comp_any (J := J) (use := some (assign (.Name x px) (envX name fscope L fa cd fcl))) (Q := fun _ s' => Q .next s') hclos hcell hkind hnames hs (wpAny_mono h (fun xv s₁ h₁ => ?_) fun _ _ e => e)) (fun _ s' hq => wpAny_pure (wpAny_pure hq)) fun _ _ e => e)
  obtain ⟨m, l, n, P, fs, y, hsrc, hloop, hfin⟩ := h₁
  refine ⟨n, P, fs, hsrc, hloop, fun C D ys s' fC fD hCD hJ kb ⟨mc, ns⟩ d => ?_⟩
  obtain ⟨yD, neD⟩ := y.add fD kb d
  have hCL : C ≠ L := fun q => by
    obtain ⟨oL, es, ep, e, _⟩ := y.fr.ns
    rw [q, e] at fC; cases fC
  refine wpAny_assign_Name (yD.stX (fun s₂ k₂ y₂ => ?_) hk hl)
  refine ⟨mc, k₂.ns (by simpa using hCL) ns, fun h' hs' => ?_⟩
  have kk := KB.same (s := s₂) hs'
  refine hfin D ys _ hJ ?_ ?_ neD
  · obtain ⟨h1, t1, rfl, q1⟩ := kb
    obtain ⟨h2, t2, rfl, q2⟩ := k₂
    refine ⟨h', t2, rfl, fun b o hb e => hs'.extBut b o (fun q => ?_) (q2 b o hb (q1 b o (by simp) e))⟩
    rw [q, fC] at e; cases e
  · have fL : ∀ b o, b ≠ C → s₂.heap.get? b = some o → h'.get? b = some o := fun b o n e => hs'.extBut b o n e
    have notC : ∀ b o, s₁.heap.get? b = some o → b ≠ C := fun b o e q => by rw [q, fC] at e; cases e
    obtain ⟨ha, tka, frsa, rfl, sla, oka, Fa, Na, offa⟩ := id y
    obtain ⟨hb, tkb, frsb, rfl, slb, okb, Fb, Nb, offb⟩ := y₂
    obtain ⟨oL, es, ep, e, r⟩ := Fb.ns
    refine ⟨h', tkb, frsb, rfl, slb, okb, ⟨⟨oL, es, ep, fL _ _ (Ne.symm hCL) e, r⟩, fun b o q => fL b o (notC b o (Fa.keep b o q)) (Fb.keep b o q), Fb.above⟩, fun p hp => ⟨fL _ _ ?_ (Nb p hp).1, (Nb p hp).2⟩, offb⟩
    rcases List.mem_append.mp hp with hp | hp
    · rcases List.mem_cons.mp hp with rfl | hp
      · exact Ne.symm hCD
      · exact notC _ _ (Na p (List.mem_append_left _ hp)).1
    · have : p.1 ∈ frsb.map (·.1) := List.mem_map_of_mem hp
      rw [slb.fst, ← sla.fst] at this
      obtain ⟨p', hp', e'⟩ := List.mem_map.mp this
      rw [← e']
      exact notC _ _ (Na p' (List.mem_append_right _ hp')).1
theorem cld {x : Str} {px : Pos} {v : Value} {C : Addr} {mc : Str → Option Value} {Q : Value → Shared → Prop} (hx : scope.names.lookup x = some .local) (hk : scope.kind = .function) (ns : s.heap.Ns C mc) (hv : mc x = some v) (h : Q v s) (hd : (x == ("__debug__" : Str)) = false := by decide) :
    wpAny (model PG w) A (eval (.Name x px) (compEnvC scope cl C env)) Q E s := wpAny_Name (wpAny_loadName_local (by simp [compEnvC, relabel, hk]) (lookup_relabel_local hx) ns hv h) hd
theorem cldC {x : Str} {px : Pos} {v : Value} {C c : Addr} {o : Obj} {Q : Value → Shared → Prop} (hk : (compEnvC scope cl C env).scope.kind = .function) (hx : (compEnvC scope cl C env).kindOf x = some .cell) (hc : cl.lookup x = some c) (e : s.heap.get? c = some o) (hd : o.data = .cell (some v)) (h : Q v s) (hb : (x == ("__debug__" : Str)) = false := by decide) :
    wpAny (model PG w) A (eval (.Name x px) (compEnvC scope cl C env)) Q E s := wpAny_Name (wpAny_loadName_cell hk hx hc ⟨o, e, hd⟩ h) hb
end
end Mine
end PartCm4

section PartPrep
theorem Mine.anewPrep : True := by
  w_top off
  trivial
open PySem PySem.W PySem.Calls PyProof.Rows
set_option Elab.async false
set_option maxRecDepth 100000
set_option maxHeartbeats 4000000
namespace Mine
theorem fillPrep : hd.heap_1 = hd.heap_1 ∧ PySem.Challenge.rw_mg0051_01 = PySem.Challenge.rw_mg0051_01 := by
  k_fill
  exact ⟨rfl, rfl⟩
local macro_rules | `(tactic| walk_at "call ref") => `(tactic| refine stopAt ?_)
local macro_rules | `(tactic| walk_at "eval ListComp") => `(tactic| refine stopAt ?_)
local macro_rules | `(tactic| walk_at "call builtin:dict.values") => `(tactic| refine stopAt ?_)
local macro_rules | `(tactic| walk_at "getMethod ref") => `(tactic| (k_here; (with_reducible show wpAny _ _ (getMethod (Value.ref _) (PySem.Str.ofString "values") _) _ _ _); refine stopAt ?_))
local macro_rules | `(tactic| k_all) => `(tactic| exact OffAt.get (by assumption))

/-- the names with no predecessors, in the sorter's order -/
noncomputable def ready0 (np : Nat → Int) : List Nat := [4, 3, 2, 1, 0].filter fun k => np k == 0

/-- the loop's outcome so far -/
noncomputable def readyT (np : Nat → Int) (i : Nat) : List Nat := ([4, 3, 2, 1, 0].take i).filter fun k => np k == 0
theorem readyT_next (np : Nat → Int) {i k : Nat} (h : [4, 3, 2, 1, 0][i]? = some k) : readyT np (i + 1) = if np k == 0 then readyT np i ++ [k] else readyT np i := by
  unfold readyT
  rw [List.take_add_one, h, List.filter_append]
  simp only [Option.toList_some, List.filter_cons, List.filter_nil]
  split <;> simp
theorem n2iK_at {a : SA} {i : Nat} {x : Value} {key : Int} (h : (n2iK a)[i]? = some (key, x)) : ∃ k, k < 5 ∧ [4, 3, 2, 1, 0][i]? = some k ∧ x = .ref (a.I k) := by
  match i, h with
  | 0, h => cases h; exact ⟨4, by decide, rfl, rfl⟩
  | 1, h => cases h; exact ⟨3, by decide, rfl, rfl⟩
  | 2, h => cases h; exact ⟨2, by decide, rfl, rfl⟩
  | 3, h => cases h; exact ⟨1, by decide, rfl, rfl⟩
  | 4, h => cases h; exact ⟨0, by decide, rfl, rfl⟩
theorem prepare_spec (w : World) (a : SA) (v : SV) (wf : SWf w a v) (pv fv : Value) (np : Nat → Int) (hnp : ∀ k < 5, ∃ t, v.np k = .int (np k) t) (hnd : ∀ k < 5, ∃ t, v.nd k = .int (Int.ofNat k) t) (su : Nat → List Nat) (rk : Nat → Nat)
    (hsu : ∀ k < 5, IntsAre (v.su k) ((su k).map Int.ofNat) ∧ (∀ j ∈ su k, j < 5 ∧ rk k < rk j) ∧ (su k).length ≤ 100) :
    Spec w 303 10 99 [.ref a.S] (sortL w a v .none pv fv) (fun _ => True) (fun r pst => ∃ R rs, r = .none ∧ pst = sortL w a v (.ref R) pv fv ++ [(R, lsO rs)] ∧ IntsAre rs ((ready0 np).map Int.ofNat) ∧ R ∉ (sortL w a v .none .none .none).map (·.1)) := by
  intro g outer frs s R G _ ok st hsz N off hR
  obtain ⟨mean, mg, mb, T⟩ := G.T
  have X := G.X
  have hD := wf.d
  refine enter X T.nolimit st hsz N (by k_is) (by k_is) (show 303 < recursionLimit by decide) (BindsTo.of_eq rfl) (locs rfl) ?_ rfl rfl rfl (by decide)
  intro L h₁ hL F N' hlt
  try dsimp only
  simp only [List.cons_append] at N'
  refine exec_then fun Q1 hQ1 => ?_
  k_steps
  refine hQ1 _ _ ?_
  clear hQ1 Q1
  dsimp only
  refine exec_then fun Q1 hQ1 => ?_
  k_steps
  rename Fr _ _ _ _ => F1
  rename News _ _ _ _ => N1
  have y1 := fun tk => Stt.of (s₀ := s) (tk := tk) (l := sortL w a v .none pv fv) (SlotsOf.refl frs) ok F1 N1 off
  obtain ⟨ep, hDat⟩ : ∃ ep, ∀ h : Heap, h.get? a.D = some v.oD → h.DictAt (intKind PG w) a.D (n2iK a) ep := by
    obtain ⟨es, ep, r⟩ := hD
    exact ⟨ep, fun h e => ⟨_, es, e, r⟩⟩
  have hszl : (2000 : Nat) ≤ sizeLine := by rw [sizeLine_eq]; decide
  refine compE (J := fun ys => IntsAre ys ((readyT np 5).map Int.ofNat)) (cl := []) (closureFor_none (by decide)) (by decide) rfl (by decide) (fun _ => rfl) ?_
  k_steps
  refine getMethod_builtin ((dmap (knd := intKind PG w) N1 (.tail _ (.tail _ (.head _))) hD).typeIs) PySem.F.plainAttrs_dict PySem.F.slot_dict_values PySem.F.type_dict_values (dmap (knd := intKind PG w) N1 (.tail _ (.tail _ (.head _))) hD).noDict ?_
  k_steps
  rename Fr _ _ _ _ => F2
  rename News _ _ _ _ => N2
  have y2 := fun tk => Stt.of (s₀ := s) (tk := tk) (l := sortL w a v .none pv fv) (SlotsOf.refl frs) ok F2 N2 off
  refine call_meetsIn PySem.F.slot_dict_values ((dmap (knd := intKind PG w) N2 (.tail _ (.tail _ (.head _))) hD).typeIs) PySem.F.entry_dict_values (PySem.F.args_dict_values_1 _) (meets_dict_values (intKind PG w) a.D wf.lo) ⟨⟨_, Heap.dictOf_iff.mpr ⟨v.oD, (N2 _ (.tail _ (.tail _ (.head _)))).1, hD⟩⟩, ?_⟩
  obtain ⟨y3, ne3⟩ := (y2 _).push { cls := .type "dict_values", data := .fields #[.ref a.D] }
  have gD := (y3.news (a.D, v.oD) (.tail _ (.tail _ (.tail _ (.head _))))).1
  refine ⟨5, _, _, Src.values (kvs := n2iK a) (ep := ep) rfl ⟨_, (y3.news _ (.head _)).1, rfl, rfl⟩ (hDat _ gD), ?_, ?_⟩
  · intro I fp St C D s₂ c
    refine c.emits (fun i ys => IntsAre ys ((readyT np i).map Int.ofNat)) .nil (fun i ys h => ?_) (turn_one ..) ?_
    · have := h.length
      rw [List.length_map] at this
      have h2 : (readyT np i).length ≤ 5 := Nat.le_trans (List.length_filter_le _ _) (List.length_take_le' _ _)
      omega
    intro i x ys s' mc E' hi ⟨key, hP⟩ hJ kb _ ns
    obtain ⟨k, hk5, hk, rfl⟩ := n2iK_at hP
    refine cput rfl rfl ns fun s₄ k₄ n₄ => ⟨k₄, ⟨_, n₄⟩, ?_⟩
    have kb4 : KB [] _ s₄ := kb.fresh k₄ fun z hz => by rw [List.mem_singleton.mp hz]; exact c.fC
    have y4 := (y3.kb kb4).sub (l' := sortL w a v .none pv fv) fun p hp => .tail _ hp
    have mn : ∀ k < 5, niE a v k ∈ sortL w a v .none pv fv := fun k hk => by
      have := mem_ni (a := a) (v := v) (r := []) hk
      rw [List.append_nil] at this
      exact .tail _ (.tail _ (.tail _ this))
    have md : ∀ k < 5, diE a k ∈ sortL w a v .none pv fv := fun k hk => by
      have := mem_di (a := a) (v := v) (r := []) hk
      rw [List.append_nil] at this
      exact .tail _ (.tail _ (.tail _ this))
    obtain ⟨tn, hn⟩ := hnp k hk5
    obtain ⟨td, hd⟩ := hnd k hk5
    refine wpAny_tests_one (wpAny_isTrue_Compare1 (Attribute_any_ (cld rfl rfl n₄ (if_pos rfl) (get_np y4.fr X y4.news (mn k hk5) (md k hk5) hn ?_))))
    refine wpAny_Constant_int (eq_int (wpAny_truthy_bool ?_))
    refine ⟨KB.of fun b o _ e => e, ?_⟩
    rw [readyT_next np hk]
    by_cases hz : np k = 0
    · rw [if_pos (by simp [hz])]
      refine Attribute_any_ (cld rfl rfl n₄ (if_pos rfl) (get_nd y4.fr X y4.news (mn k hk5) (md k hk5) hd ?_))
      refine ⟨KB.of fun b o _ e => e, ?_⟩
      rw [if_pos (by simp [hz]), List.map_append]
      exact hJ.append (.cons _ _ .nil)
    · rw [if_neg (by simp [hz]), if_neg (by simp [hz])]
      exact hJ
  · intro RR ys s' hJ kb fR dR
    obtain ⟨y4, ne4⟩ := (y3.sub (l' := sortL w a v .none pv fv) fun p hp => .tail _ hp).add fR kb dR
    clear y3 ne3 F2 N2 y1 y2 gD fR dR kb
    obtain ⟨h4, tk4, frs4, rfl, sl4, ok4, F4, N4, off4⟩ := y4
    rw [frame_as (m := fun y => List.lookup y _) [(Str.ofString "self", .ref a.S)] (by simp only [List.forall_mem_cons]; exact ⟨rfl, fun _ h => by cases h⟩)] at F4
    simp only [List.cons_append] at N4
    have odS : OffAt a.dS a frs4 := ⟨wf.odS, fun q hq => off4 q hq _ (by simp)⟩
    have qR : @Ne Nat RR a.dS := fun q => ne4 (a.dS, sDict w a v .none pv fv) (.tail _ (.head _)) q.symm
    have n1 := wf.n1
    have n2 := wf.n2
    have n3 := wf.n3
    k_steps
    refine hQ1 _ _ ?_
    clear hQ1 Q1
    dsimp only
    refine exec_then fun Q1 hQ1 => ?_
    k_steps
    rename Fr _ _ _ _ => F5
    rename News _ _ _ _ => N5
    have offS : OwnOff frs4 ((sortL w a v (.ref RR) pv fv).map (·.1)) := fun p hp b hb => off4 p hp b (.tail _ hb)
    refine Spec.use (find_cycle_spec w a v wf (.ref RR) pv fv su rk hsu) (others := (RR, lsO ys) :: sortL w a v (.ref RR) pv fv) (frs := frs4) G F5 N5 rfl rfl ok4 (fun p hp => by simpa only [List.cons_append, List.nil_append] using hp) (fun p hp b hb => by cases hb) ?_ (fun g' _ _ hN p hp => (hN p (.tail _ hp)).1) ?_
    · intro p hp b hb
      exact off4 p hp b hb
    intro vv h6 tk6 frs6 pst hp9 sl6 ok6 F6 N6 _ off6 _
    obtain ⟨rfl, rfl⟩ := hp9
    clear F5 N5
    simp only [List.nil_append, List.cons_append] at N6
    k_steps
    refine hQ1 _ _ ?_
    clear hQ1 Q1
    dsimp only
    k_steps
    rename Fr _ _ _ _ => F7
    rename News _ _ _ _ => N7
    refine hR _ _ _ frs6 _ ⟨RR, ys, rfl, rfl, hJ, ?_⟩ (sl4.trans sl6) F7.keep (fun p hp => ?_) (fun p hp b hb => ?_)
    · intro hm
      obtain ⟨q, hq, e⟩ := List.mem_map.mp hm
      exact sort_ne (v := v) (rd := .none) (pv := pv) (fv := fv) ne4 q hq e
    · refine (fun P => ⟨(N7 p P).1, (N7 p P).2.2⟩) ?_
      rcases List.mem_append.mp hp with hp | hp
      · rcases List.mem_append.mp hp with hp | hp
        · rw [← List.cons_append, ← List.cons_append, ← List.cons_append]
          exact .tail _ (List.mem_append_left _ hp)
        · rw [List.mem_singleton.mp hp]; exact .head _
      · rw [← List.cons_append, ← List.cons_append, ← List.cons_append]
        exact .tail _ (List.mem_append_right _ hp)
    · rw [List.map_append] at hb
      rcases List.mem_append.mp hb with hb | hb
      · exact off6 p hp b (.tail _ hb)
      · rw [List.mem_singleton.mp hb]; exact off6 p hp RR (.head _)
end Mine
end PartPrep

section PartMk
theorem Mine.anewMk : True := by
  w_top off
  trivial
open PySem PySem.W PySem.Calls PyProof.Rows
set_option Elab.async false
set_option maxRecDepth 100000
set_option maxHeartbeats 4000000
namespace Mine
theorem fillMk : hd.heap_1 = hd.heap_1 ∧ PySem.Challenge.rw_mg0051_01 = PySem.Challenge.rw_mg0051_01 := by
  k_fill
  exact ⟨rfl, rfl⟩

/-- an own class called -/
theorem make_use {w : World} {d u : Nat} {C fI : Addr} {args : List Value} {others frs : List (Addr × Obj)} {fz : Heap → Prop} {post : Addr → Addr → List (Addr × Obj) → Prop}
    {env : Env} {outer : List Env} {h₀ : Heap} {L : Addr} {m : Str → Option Value} {s : Shared} {Q : Value → Shared → Prop} {E : Value → Shared → Prop}
    (hm : makesIn (hd.heap_1 w.params) C = true) (hi : findIn (hd.heap_1 w.params) (.ref C) "__init__" = some (some (.ref fI))) (hf : isFn (hd.heap_1 w.params) (.ref fI) = true)
    (S : ∀ x dx : Addr, @Ne Nat x dx → Spec w (d + 1) (u + 1) fI (.ref x :: args) [(x, instObj C dx), (dx, dictOf [] 0)] fz (fun r pst => r = .none ∧ post x dx pst))
    (G : Gd w h₀) (F : Fr h₀ L s.heap m) (N : News h₀ L s.heap (others ++ frs)) (hfr : env.frame = some L) (hk : env.scope.kind = .function) (ok : FrsOk outer frs) (off : OwnOff frs (others.map (·.1)))
    (hfz : ∀ g', h₀.StaysIn g' → Nw h₀ g' others → fz g')
    (k : ∀ x dx h' tk frs' pst, post x dx pst → SlotsOf frs frs' → FrsOk outer frs' → Fr h₀ L h' m → News h₀ L h' (pst ++ (others ++ frs')) → OwnOff (others ++ frs') (pst.map (·.1)) → OwnOff frs' (others.map (·.1)) → Q (.ref x) { s with heap := h', toks := tk }) :
    wpAny (model PG w) (AA d u (env :: outer)) (call (.ref C) args) Q E s := by
  refine call_cls F G.X N hm hi hf fun x dx h' F' N' l1 l2 => ?_
  show codeAny (model PG w) (AA (d + 1) (u + 1) (env :: outer)) _ _ _
  refine (S x dx (Nat.ne_of_gt l2)).useC (others := others) (frs := frs) (s := { s with heap := h' }) G F' N' hfr hk ok (fun p hp => by simpa using hp) ?_ off (fun g' _ st nw => hfz g' st nw) ?_
  · intro p hp b hb
    have hlt : p.1 < dx := l1 p hp
    simp only [List.map_cons, List.map_nil, List.mem_cons, List.not_mem_nil, or_false] at hb
    rcases hb with rfl | rfl
    · exact Nat.ne_of_lt (Nat.lt_trans hlt l2)
    · exact Nat.ne_of_lt hlt
  · rintro v h₂ tk frs' pst ⟨rfl, hp⟩ sl ok' F₂ N₂ o1 o2 _
    exact ⟨rfl, k x dx h₂ tk frs' pst hp sl ok' F₂ N₂ o1 o2⟩

theorem initN_spec (w : World) (x dx : Addr) (hne : @Ne Nat x dx) (n : Int) (t : Tok) :
    Spec w 306 17 43 [.ref x, .int n t] [(x, instObj 47 dx), (dx, dictOf [] 0)] (fun _ => True) (fun r pst => r = .none ∧ ∃ U t', @Ne Nat U x ∧ @Ne Nat U dx ∧ pst = [(x, niObj dx U (.int 0 t') (.int n t)), (dx, dictOf [] 0), (U, listOf #[] 0)]) := by
  intro g outer frs s R G _ ok st hsz N off hR
  obtain ⟨mean, mg, mb, T⟩ := G.T
  have X := G.X
  refine enter X T.nolimit st hsz N (by k_is) (by k_is) (show 306 < recursionLimit by decide) (BindsTo.of_eq rfl) (locs rfl) ?_ rfl rfl rfl (by decide)
  intro L h₁ hL F N' hlt
  try dsimp only
  simp only [List.cons_append, List.nil_append] at N'
  have ox : ∀ p ∈ frs, p.1 ≠ x := fun p hp => off p hp x (by simp)
  refine exec_then fun Q1 hQ1 => ?_
  k_steps
  refine hQ1 _ _ ?_
  clear hQ1 Q1
  dsimp only
  refine exec_then fun Q1 hQ1 => ?_
  k_steps
  refine hQ1 _ _ ?_
  clear hQ1 Q1
  dsimp only
  k_steps
  rename Fr _ _ _ _ => F7
  rename News _ _ _ _ => N7
  rename _ ∧ _ ∧ AllLt _ frs => l7
  rename_i UU _ _
  obtain ⟨t', N8⟩ : ∃ t', News g L _ ((UU, listOf #[] 0) :: (x, niObj dx UU (.int 0 t') (.int n t)) :: (dx, dictOf [] 0) :: frs) := ⟨_, N7⟩
  refine hR _ _ _ frs [(x, niObj dx UU (.int 0 t') (.int n t)), (dx, dictOf [] 0), (UU, listOf #[] 0)] ⟨rfl, UU, t', Nat.ne_of_gt l7.1, Nat.ne_of_gt l7.2.1, rfl⟩ (SlotsOf.refl _) F7.keep (fun p hp => (fun P => ⟨(N8 p P).1, (N8 p P).2.2⟩) ?_) (fun p hp b hb => ?_)
  · simp only [List.cons_append, List.nil_append, List.mem_cons] at hp ⊢
    rcases hp with hp | hp | hp | hp <;> simp [hp]
  · simp only [List.map_cons, List.map_nil, List.mem_cons, List.not_mem_nil, or_false] at hb
    rcases hb with rfl | rfl | rfl
    · exact off p hp _ (by simp)
    · exact off p hp _ (by simp)
    · exact Nat.ne_of_lt (allLt_mem l7.2.2 p hp)

theorem initS_spec (w : World) (x dx : Addr) (hne : @Ne Nat x dx) :
    Spec w 304 11 80 [.ref x] [(x, instObj 144 dx), (dx, dictOf [] 0)] (fun _ => True) (fun r pst => r = .none ∧ ∃ (a : SA) (v : SV) (t3 t4 : Tok), a.S = x ∧ a.dS = dx ∧ pst = [(x, instObj 144 dx), (dx, sDict w a v .none (.int 0 t3) (.int 0 t4)), (a.D, v.oD)] ∧ v.oD.IsDictOf (intKind PG w) [] ∧ (a.D == sysModules) = false ∧ @Ne Nat a.D x ∧ @Ne Nat a.D dx) := by
  intro g outer frs s R G _ ok st hsz N off hR
  obtain ⟨mean, mg, mb, T⟩ := G.T
  have X := G.X
  refine enter (binds := [(Str.ofString "self", .ref x), (Str.ofString "graph", .none)]) X T.nolimit st hsz N (by k_is) (by k_is) (show 304 < recursionLimit by decide) (binds_K (X.keeps st) rfl (by k_is) rfl rfl rfl) (locs rfl) ?_ rfl rfl rfl (by decide)
  intro L h₁ hL F N' hlt
  try dsimp only
  simp only [List.cons_append, List.nil_append] at N'
  have odx : ∀ p ∈ frs, p.1 ≠ dx := fun p hp => off p hp dx (by simp)
  refine exec_then fun Q1 hQ1 => ?_
  k_steps
  refine hQ1 _ _ ?_
  clear hQ1 Q1
  dsimp only
  refine exec_then fun Q1 hQ1 => ?_
  k_steps
  refine hQ1 _ _ ?_
  clear hQ1 Q1
  dsimp only
  refine exec_then fun Q1 hQ1 => ?_
  k_steps
  refine hQ1 _ _ ?_
  clear hQ1 Q1
  dsimp only
  refine exec_then fun Q1 hQ1 => ?_
  k_steps
  refine hQ1 _ _ ?_
  clear hQ1 Q1
  dsimp only
  k_steps
  rename Fr _ _ _ _ => F7
  rename News _ _ _ _ => N7
  rename _ ∧ _ ∧ AllLt _ frs => l7
  rename Obj.IsDictOf (intKind PG w) _ _ => di
  rename (_ == sysModules) = false => lo
  rename Obj => oD
  rename_i DD _ _ _ _ _ _ _ _
  have a0 : SA := ⟨x, dx, DD, fun _ => x, fun _ => x, fun _ => x⟩
  obtain ⟨v, t3, t4, hv, N8⟩ : ∃ (v : SV) (t3 t4 : Tok), v.oD = oD ∧ News g L _ ((DD, oD) :: (x, instObj 144 dx) :: (dx, sDict w ⟨x, dx, DD, fun _ => x, fun _ => x, fun _ => x⟩ v .none (.int 0 t3) (.int 0 t4)) :: frs) :=
    ⟨⟨_, _, _, _, oD, fun _ => .none, fun _ => .none, fun _ => [], fun _ => 0⟩, _, _, rfl, N7⟩
  subst hv
  refine hR _ _ _ frs [(x, instObj 144 dx), (dx, sDict w ⟨x, dx, DD, fun _ => x, fun _ => x, fun _ => x⟩ v .none (.int 0 t3) (.int 0 t4)), (DD, v.oD)] ⟨rfl, ⟨x, dx, DD, fun _ => x, fun _ => x, fun _ => x⟩, v, t3, t4, rfl, rfl, rfl, di, lo, Nat.ne_of_gt l7.1, Nat.ne_of_gt l7.2.1⟩ (SlotsOf.refl _) F7.keep (fun p hp => (fun P => ⟨(N8 p P).1, (N8 p P).2.2⟩) ?_) (fun p hp b hb => ?_)
  · simp only [List.cons_append, List.nil_append, List.mem_cons] at hp ⊢
    rcases hp with hp | hp | hp | hp <;> simp [hp]
  · simp only [List.map_cons, List.map_nil, List.mem_cons, List.not_mem_nil, or_false] at hb
    rcases hb with rfl | rfl | rfl
    · exact off p hp _ (by simp)
    · exact off p hp _ (by simp)
    · exact Nat.ne_of_lt (allLt_mem l7.2.2 p hp)
end Mine
end PartMk

section PartMk2
theorem Mine.anewMk2 : True := by
  w_top off
  trivial
open PySem PySem.W PySem.Calls PyProof.Rows
set_option Elab.async false
set_option maxRecDepth 100000
set_option maxHeartbeats 4000000
namespace Mine
theorem fillMk2 : hd.heap_1 = hd.heap_1 ∧ PySem.Challenge.rw_mg0051_01 = PySem.Challenge.rw_mg0051_01 := by
  k_fill
  exact ⟨rfl, rfl⟩
local macro_rules | `(tactic| walk_at "getMethod ref") => `(tactic| (k_here; (with_reducible show wpAny _ _ (getMethod (Value.ref _) (PySem.Str.ofString "get") _) _ _ _); k_dflt (refine' dget_method ?N ?m ?d ?_; (case N => k_asm); (case m => k_mem); (case d => k_asm))))
local macro_rules | `(tactic| walk_at "call builtin:dict.get") => `(tactic| refine stopAt ?_)
local macro_rules | `(tactic| walk_at "call ref") => `(tactic| refine stopAt ?_)
local macro_rules | `(tactic| walk_at "setItem") => `(tactic| refine stopAt ?_)
local macro_rules | `(tactic| walk_at "setItem ref int ref") => `(tactic| refine stopAt ?_)
local macro_rules | `(tactic| walk_at "setItem ref") => `(tactic| refine stopAt ?_)

/-- a sorter whose nodes are still to come -/
noncomputable abbrev sort0 (w : World) (a : SA) (v : SV) (pv fv : Value) : List (Addr × Obj) := [(a.S, instObj 144 a.dS), (a.dS, sDict w a v .none pv fv), (a.D, v.oD)]

theorem get_new_spec (w : World) (a : SA) (v : SV) (pv fv : Value) (n1 : @Ne Nat a.S a.dS) (n2 : @Ne Nat a.S a.D) (n3 : @Ne Nat a.dS a.D) (lo : (a.D == sysModules) = false) (kvs : List (Int × Value)) (hd : v.oD.IsDictOf (intKind PG w) kvs) (hl : kvs.length ≤ 100) (k : Int) (t : Tok) (hk : k ∉ kvs.map (·.1)) :
    Spec w 304 13 87 [.ref a.S, .int k t] (sort0 w a v pv fv) (fun _ => True) (fun r pst => ∃ I dI U t' oD', r = .ref I ∧ pst = (I, niObj dI U (.int 0 t') (.int k t)) :: (dI, dictOf [] 0) :: (U, listOf #[] 0) :: sort0 w a { v with oD := oD' } pv fv ∧
      oD'.IsDictOf (intKind PG w) (kvs ++ [(k, .ref I)]) ∧ (I :: dI :: U :: [a.S, a.dS, a.D]).Nodup) := by
  intro g outer frs s R G _ ok st hsz N off hR
  obtain ⟨mean, mg, mb, T⟩ := G.T
  have X := G.X
  have hD := hd
  have hszl : (2000 : Nat) ≤ sizeLine := by rw [sizeLine_eq]; decide
  refine enter X T.nolimit st hsz N (by k_is) (by k_is) (show 304 < recursionLimit by decide) (BindsTo.of_eq rfl) (locs rfl) ?_ rfl rfl rfl (by decide)
  intro L h₁ hL F N' hlt
  try dsimp only
  simp only [List.cons_append, List.nil_append] at N'
  refine exec_then fun Q1 hQ1 => ?_
  k_steps
  rename Fr _ _ _ _ => F2
  rename News _ _ _ _ => N2
  refine dget_call (intKind_is _ _ _ _) N2 (by k_mem) hD lo ?_
  have hno : valueAt kvs k = none := by
    cases q : valueAt kvs k with
    | none => rfl
    | some x =>
      unfold valueAt at q
      obtain ⟨p, hp, e⟩ := Option.map_eq_some_iff.mp q
      exact absurd (List.mem_map.mpr ⟨p, List.mem_of_find?_eq_some hp, by simpa using List.find?_some hp⟩) hk
  rw [hno]
  dsimp only [Option.getD_none]
  k_steps
  rename Fr _ _ _ _ => F3
  rename News _ _ _ _ => N3
  refine make_use (d := 305) (u := 16) (C := 47) (fI := 43) (others := sort0 w a v pv fv) (frs := frs) (post := fun x dx pst => ∃ U t', @Ne Nat U x ∧ @Ne Nat U dx ∧ @Ne Nat x dx ∧ pst = [(x, niObj dx U (.int 0 t') (.int k t)), (dx, dictOf [] 0), (U, listOf #[] 0)]) (fz := fun _ => True) (by k_is) (by k_is) (by k_is)
    (fun x dx hne => ?_) G F3 N3 rfl rfl ok off (fun _ _ _ => trivial) ?_
  · intro g outer frs s R G fz ok st hsz N off hR
    refine initN_spec w x dx hne k t g outer frs s R G fz ok st hsz N off fun v h' tk frs' pst hp => hR v h' tk frs' pst ?_
    obtain ⟨rfl, U, t', e1, e2, e3⟩ := hp
    exact ⟨rfl, U, t', e1, e2, hne, e3⟩
  rintro I dI h4 tk4 frs4 _ ⟨U, t', e1, e2, e3, rfl⟩ sl4 ok4 F4 N4 off4 off5
  clear F3 N3
  simp only [List.cons_append, List.nil_append] at N4
  have gl : ∀ x ∈ [a.S, a.dS, a.D], @Ne Nat x I ∧ @Ne Nat x dI ∧ @Ne Nat x U := fun x hx => by
    have hm : ∃ o, (x, o) ∈ sort0 w a v pv fv ++ frs4 := by
      simp only [List.mem_cons, List.not_mem_nil, or_false] at hx
      rcases hx with rfl | rfl | rfl
      · exact ⟨_, .head _⟩
      · exact ⟨_, .tail _ (.head _)⟩
      · exact ⟨_, .tail _ (.tail _ (.head _))⟩
    obtain ⟨o, hm⟩ := hm
    exact ⟨off4 _ hm I (by simp), off4 _ hm dI (by simp), off4 _ hm U (by simp)⟩
  have q1 := (gl a.D (by simp)).1
  have q2 := (gl a.D (by simp)).2.1
  have q3 := (gl a.D (by simp)).2.2
  have offD : ∀ p ∈ frs4, p.1 ≠ a.D := fun p hp => off5 p hp a.D (by simp)
  k_steps
  rename Fr _ _ _ _ => F5
  rename News _ _ _ _ => N5
  refine dset_K F5 N5 (u := fun o' => (I, niObj dI U (.int 0 t') (.int k t)) :: (dI, dictOf [] 0) :: (U, listOf #[] 0) :: (a.S, instObj 144 a.dS) :: (a.dS, sDict w a v .none pv fv) :: (a.D, o') :: frs4) (.tail (Ne.symm q1) (.tail (Ne.symm q2) (.tail (Ne.symm q3) (.tail n2 (.tail n3 (.head offD)))))) hd (by omega) fun h6 oD' F6 N6 hd' => ?_
  clear F5 N5
  rw [stored_new hk] at hd'
  k_steps
  refine hQ1 _ _ ?_
  clear hQ1 Q1
  dsimp only
  k_steps
  rename Fr _ _ _ _ => F7
  rename News _ _ _ _ => N7
  refine hR _ _ _ frs4 _ ⟨I, dI, U, t', oD', rfl, rfl, hd', ?_⟩ sl4 F7.keep (fun p hp => ⟨(N7 p hp).1, (N7 p hp).2.2⟩) (fun p hp b hb => ?_)
  · have g1 := gl a.S (by simp)
    have g2 := gl a.dS (by simp)
    have g3 := gl a.D (by simp)
    simp only [List.nodup_cons, List.mem_cons, List.not_mem_nil, or_false, not_or, not_false_eq_true, List.nodup_nil, and_true]
    exact ⟨⟨e3, Ne.symm e1, Ne.symm g1.1, Ne.symm g2.1, Ne.symm g3.1⟩, ⟨Ne.symm e2, Ne.symm g1.2.1, Ne.symm g2.2.1, Ne.symm g3.2.1⟩, ⟨Ne.symm g1.2.2, Ne.symm g2.2.2, Ne.symm g3.2.2⟩, ⟨n1, n2⟩, n3⟩
  · simp only [List.map_cons, List.map_nil, List.mem_cons, List.not_mem_nil, or_false] at hb
    rcases hb with rfl | rfl | rfl | hb
    · exact off4 p (List.mem_append_right _ hp) _ (by simp)
    · exact off4 p (List.mem_append_right _ hp) _ (by simp)
    · exact off4 p (List.mem_append_right _ hp) _ (by simp)
    · exact off5 p hp b (by simpa using hb)
end Mine
end PartMk2

section PartMk3
theorem Mine.anewMk3 : True := by
  w_top off
  trivial
open PySem PySem.W PySem.Calls PyProof.Rows
set_option Elab.async false
set_option maxRecDepth 100000
set_option maxHeartbeats 4000000
namespace Mine
theorem fillMk3 : hd.heap_1 = hd.heap_1 ∧ PySem.Challenge.rw_mg0051_01 = PySem.Challenge.rw_mg0051_01 := by
  k_fill
  exact ⟨rfl, rfl⟩
local macro_rules | `(tactic| walk_at "call ref") => `(tactic| refine stopAt ?_)
local macro_rules | `(tactic| walk_at "call builtin:len") => `(tactic| refine stopAt ?_)

local macro_rules | `(tactic| walk_at "setAttr ref") => `(tactic| refine stopAt ?_)
theorem addNew_spec (w : World) (a : SA) (v : SV) (pv fv : Value) (n1 : @Ne Nat a.S a.dS) (n2 : @Ne Nat a.S a.D) (n3 : @Ne Nat a.dS a.D) (lo : (a.D == sysModules) = false) (kvs : List (Int × Value)) (hd : v.oD.IsDictOf (intKind PG w) kvs) (hl : kvs.length ≤ 100) (k : Int) (t : Tok) (hk : k ∉ kvs.map (·.1)) :
    Spec w 303 10 94 [.ref a.S, .int k t] (sort0 w a v pv fv) (fun _ => True) (fun r pst => ∃ I dI U t' oD', r = .none ∧ pst = (I, niObj dI U (.int 0 t') (.int k t)) :: (dI, dictOf [] 0) :: (U, listOf #[] 0) :: sort0 w a { v with oD := oD' } pv fv ∧
      oD'.IsDictOf (intKind PG w) (kvs ++ [(k, .ref I)]) ∧ (I :: dI :: U :: [a.S, a.dS, a.D]).Nodup) := by
  intro g outer frs s R G _ ok st hsz N off hR
  have hszl : (2000 : Nat) ≤ sizeLine := by rw [sizeLine_eq]; decide
  refine enterV (ps := []) (binds := fun t' => [(Str.ofString "self", .ref a.S), (Str.ofString "node", .int k t), (Str.ofString "predecessors", t')]) G st hsz N (by k_is) (by k_is) (show 303 < recursionLimit by decide)
    rfl (by simp) (fun _ => locs rfl) ?_ rfl rfl rfl (by decide)
  intro g' D L h₁ stg G' hD F N'
  obtain ⟨mean, mg, mb, T⟩ := G'.T
  have X := G'.X
  simp only [List.cons_append, List.nil_append] at N'
  refine exec_then fun Q1 hQ1 => ?_
  k_steps
  refine hQ1 _ _ ?_
  clear hQ1 Q1
  dsimp only
  refine exec_then fun Q1 hQ1 => ?_
  k_steps
  rename Fr _ _ _ _ => F1
  rename News _ _ _ _ => N1
  refine Spec.use (get_new_spec w a v pv fv n1 n2 n3 lo kvs hd hl k t hk) (others := []) (frs := frs) G' F1 N1 rfl rfl ok (fun p hp => by simpa only [List.cons_append, List.nil_append] using hp) (by simpa only [List.nil_append] using off) (fun p hp b hb => by cases hb) (fun _ _ _ _ => trivial) ?_
  intro vv h2 tk2 frs2 pst hp9 sl2 ok2 F2 N2 off2 _ _
  obtain ⟨I, dI, U, t', oD', rfl, rfl, hd', nod⟩ := hp9
  clear F1 N1
  simp only [List.cons_append, List.nil_append] at N2 off2
  have offI : ∀ p ∈ frs2, p.1 ≠ I := fun p hp => off2 p hp I (by simp)
  have nod' := nod
  simp only [List.nodup_cons, List.mem_cons, List.not_mem_nil, or_false, not_or, not_false_eq_true, List.nodup_nil, and_true] at nod'
  obtain ⟨⟨z1, z2, z3, z4, z5⟩, ⟨z6, z7, z8, z9⟩, ⟨z10, z11, z12⟩, _⟩ := nod'
  have y1 : @Ne Nat I dI := z1
  have y2 : @Ne Nat I U := z2
  have y3 : @Ne Nat I a.S := z3
  have y4 : @Ne Nat I a.dS := z4
  have y5 : @Ne Nat I a.D := z5
  clear z1 z2 z3 z4 z5 z6 z7 z8 z9 z10 z11 z12
  k_steps
  refine hQ1 _ _ ?_
  clear hQ1 Q1
  dsimp only
  refine exec_then fun Q1 hQ1 => ?_
  k_steps
  rename Fr _ _ _ _ => F3
  rename News _ _ _ _ => N3
  have htup : ∀ h m', Fr g' L h m' → h.IsTuple D #[] := fun h m' F => ⟨_, F.keep _ _ hD, rfl, _, rfl⟩
  refine len_tuple (show IsTup _ D #[] from ⟨_, F3.keep _ _ hD, rfl, _, rfl⟩) (by simp) ?_
  k_steps
  rename Fr _ _ _ _ => F4
  rename News _ _ _ _ => N4
  have hU : ∀ x : Value, Upd I (niObj dI U (.int 0 t') (.int k t)) (niObj dI U x (.int k t)) ((I, niObj dI U (.int 0 t') (.int k t)) :: (dI, dictOf [] 0) :: (U, listOf #[] 0) :: (a.S, instObj 144 a.dS) :: (a.dS, sDict w a { v with oD := oD' } .none pv fv) :: (a.D, oD') :: frs2) ((I, niObj dI U x (.int k t)) :: (dI, dictOf [] 0) :: (U, listOf #[] 0) :: (a.S, instObj 144 a.dS) :: (a.dS, sDict w a { v with oD := oD' } .none pv fv) :: (a.D, oD') :: frs2) := fun x => .head fun p hp => by
    simp only [List.mem_cons] at hp
    rcases hp with rfl | rfl | rfl | rfl | rfl | hp
    · exact Ne.symm y1
    · exact Ne.symm y2
    · exact Ne.symm y3
    · exact Ne.symm y4
    · exact Ne.symm y5
    · exact offI p hp
  refine set_slot (ox' := niObj dI U (.int (0 + (#[] : Array Value).size) _) (.int k t)) F4 X N4 (InstAt.of_news N4 (.head _) (.tail _ (.head _))) (by k_is) (by k_is) (by k_is) (by k_is) (by k_is) (by decide) (by first | rfl | simp) rfl (hU _) fun h6 F6 N6 => ?_
  clear F4 N4
  refine hQ1 _ _ ?_
  clear hQ1 Q1
  dsimp only
  obtain ⟨t6, N7⟩ : ∃ t6, News g' L h6 (((I, niObj dI U (.int 0 t6) (.int k t)) :: (dI, dictOf [] 0) :: (U, listOf #[] 0) :: sort0 w a { v with oD := oD' } pv fv) ++ frs2) := ⟨_, N6⟩
  clear N6
  have off6 : OwnOff frs2 (((I, niObj dI U (.int 0 t6) (.int k t)) :: (dI, dictOf [] 0) :: (U, listOf #[] 0) :: sort0 w a { v with oD := oD' } pv fv).map (·.1)) := off2
  have y6 := fun tk => Stt.of (s₀ := s) (tk := tk) (l := (I, niObj dI U (.int 0 t6) (.int k t)) :: (dI, dictOf [] 0) :: (U, listOf #[] 0) :: sort0 w a { v with oD := oD' } pv fv) sl2 ok2 F6 N7 off6
  refine wpAny_execs_cons (wpAny_For ?_)
  refine (y6 _).ld rfl ?_ rfl rfl (by decide)
  refine wpAny_pyIter_tuple (htup _ _ F6) ?_
  obtain ⟨y7, hne⟩ := (y6 _).push { cls := .type "tuple_iterator", data := .fields #[.ref D, .int 0 0] }
  have hDI : D ≠ h6.objs.size := Nat.ne_of_lt (Heap.lt_size (F6.keep _ _ hD))
  dsimp only at y7 hne
  generalize hIdef : h6.objs.size = II at y7 hne hDI
  refine Stt.forW (oI := { cls := .type "tuple_iterator", data := .fields #[.ref D, .int 0 0] }) (Walks.tuple rfl II D hDI #[]) (fun i h x => let ⟨o, e, _⟩ := x.1; ⟨o, e⟩)
    (fun i m' l' => l' = (I, niObj dI U (.int 0 t6) (.int k t)) :: (dI, dictOf [] 0) :: (U, listOf #[] 0) :: sort0 w a { v with oD := oD' } pv fv) y7 hne ?hst rfl ?hsrc ?turn ?done (fun _ => rfl)
  case hst => exact ⟨⟨_, (y7.news _ (.head _)).1, rfl, rfl⟩, htup _ _ y7.fr⟩
  case hsrc =>
    intro b hb hbI
    have hb' : b = D := by simpa [hbI] using hb
    subst hb'
    exact ⟨_, fun i m₁ l₁ s₁ oI' _ y => y.fr.keep _ _ hD⟩
  case turn =>
    intro i v m₁ l₁ s₁ oI hi
    exact absurd hi (by simp)
  case done =>
    rintro m' l' s' rfl - y'
    refine wpAny_execs_nil ?_
    obtain ⟨h8, tk8, frs8, rfl, sl8, ok8, F8, N8, off8⟩ := y'
    exact hR _ _ _ frs8 _ ⟨I, dI, U, t6, oD', rfl, rfl, hd', nod⟩ sl8 (fun b o e => F8.keep b o (stg b o e)) (fun p hp => ⟨(N8 p hp).1, by
      cases q : g.get? p.1 with
      | none => rfl
      | some o => have := (N8 p hp).2.2; rw [stg _ _ q] at this; cases this⟩) off8
end Mine
end PartMk3

section PartCel
theorem Mine.anewCel : True := by
  w_top off
  trivial
open PySem PySem.W PySem.Calls PyProof.Rows
set_option Elab.async false
set_option maxRecDepth 100000
set_option maxHeartbeats 4000000
namespace Mine

/-- entering a def whose locals are captured -/
theorem enterC {w : World} {A : Around} {g : Heap} {s : Shared} {news : List (Addr × Obj)} {R : Result → Shared → Prop}
    {name qual : Str} {params : Arguments} {body : List Stmt} {scope : Scope} {dV kV doc pm cdv ct oc : Value} {an od : Option Addr} {osl : Array (Option Value)} {f : Addr} {args : Args} {binds : List (Str × Value)}
    (X : (hd.heap_1 w.params).In g) (hlim : g.NoLimit) (st : g.StaysIn s.heap) (hsz : g.objs.size ≤ s.heap.objs.size)
    (N : Nw g s.heap news)
    (ho : (hd.heap_1 w.params).lookup f = some ⟨oc, od, .func (fnOf name qual params body scope dV kV doc pm an cdv ct), osl⟩)
    (hcd : codeIn (hd.heap_1 w.params) cdv qual = true) (hroom : A.depth < recursionLimit)
    (hbind : BindsTo s (fnOf name qual params body scope dV kV doc pm an cdv ct) args binds)
    (hkind : ∀ n, ∀ x ∈ binds, scope.names.lookup x.1 = some .local ∨ (scope.names.lookup x.1 = some .cell ∧ ((cellsFrom n scope.names []).lookup x.1).isSome = true))
    (hnd : ((cellsFrom 0 scope.names []).map (·.1)).Nodup)
    (h : ∀ L' h₁ tk cells, L' = s.heap.objs.size → Fr g L' h₁ (bindL (envOfC qual scope L' f cdv).kindOf binds fun _ => none) → News g L' h₁ (cells ++ news) →
      CellsAre (bindC (envOfC qual scope L' f cdv).kindOf binds fun _ => none) (cellsFrom (L' + 1) scope.names []) cells → (∀ p ∈ cells, s.heap.get? p.1 = none) →
      wpAny (model PG w) (A.deeper (envOfC qual scope L' f cdv)) (execs body (envOfC qual scope L' f cdv))
        (fun fl s' => R (.ok (.ret (match fl with | .ret v => v | _ => .none))) s') (fun _ _ => False)
        { s with heap := h₁, toks := tk })
    (hco : scope.isCoroutine = false) (hgen : scope.isGenerator = false) (hk : scope.kind = .function) : codeAny (model PG w) A (.call (.ref f) args) R s := by
  have X' := X.keeps st
  refine codeAny_call_function (fd := fnOf name qual params body scope dV kV doc pm an cdv ct) (body := body) hroom (X' _ _ ho) rfl hco hgen rfl (codeRec_of X' hcd) (hbind _ _ _ _ ?_)
  refine wpAny_newFunctionEnv_cells hk (hkind _) fun env' he s' x => ?_
  subst he
  refine ⟨(hlim.keeps st).keeps x.toInCall.keep, codeAny_func ?_⟩
  obtain ⟨h₁, tk, rfl, _⟩ := x.done
  have hk₁ := x.toInCall.keep
  obtain ⟨cells, NC, Y⟩ := Cl.news (h₀ := s.heap) (Nat.le_refl _) fun n c hm => ⟨x.cell n c (lookup_of_mem_nodup (cellsFrom_names scope.names 0 (s.heap.objs.size + 1) [] [] rfl ▸ hnd) hm), x.above n c hm⟩
  refine wpAny_mono (h s.heap.objs.size h₁ tk cells rfl ⟨x.toInCall.ns, fun b o e => hk₁ b o (st b o e), hsz⟩ (fun p hp => ?_) Y fun p hp => (NC p hp).2.2) (fun fl s' hl => hl) fun _ _ y => y.elim
  rcases List.mem_append.mp hp with hp | hp
  · refine ⟨(NC p hp).1, (NC p hp).2.1, ?_⟩
    cases q : g.get? p.1 with
    | none => rfl
    | some o => have := st _ _ q; rw [(NC p hp).2.2] at this; cases this
  · exact ⟨hk₁ _ _ (N p hp).1, Nat.ne_of_lt (Heap.lt_size (N p hp).1), (N p hp).2⟩

section
variable {g : Heap} {L : Addr} {outer : List Env} {frs0 l : List (Addr × Obj)} {s₀ s : Shared} {m : Str → Option Value}
  {w : World} {A : Around} {env : Env} {R : Result → Shared → Prop} {E : Value → Shared → Prop}

/-- a for over whatever can be walked -/
theorem Stt.forS {xv : Value} {n : Nat} {P : Nat → Value → Prop} {fs : List Addr} {target : Expr} {body : List Stmt} (hsrc : Src w A xv s n P fs)
    (J : Nat → (Str → Option Value) → List (Addr × Obj) → Prop) (x : Stt g L outer frs0 s₀ m l s) (h0 : J 0 m l)
    (hfs : ∀ b ∈ fs, ∃ ob, ∀ i m₁ l₁ s₁, J i m₁ l₁ → Stt g L outer frs0 s₀ m₁ l₁ s₁ → s₁.heap.get? b = some ob)
    (turn : ∀ I oI i v m₁ l₁ s₁, i < n → P i v → J i m₁ l₁ → (∀ p ∈ l, p.1 ≠ I) → (∀ p ∈ l₁, p.1 ≠ I) → Stt g L outer frs0 s₀ m₁ ((I, oI) :: l₁) s₁ →
      wpAny (model PG w) A (assign target env v) (fun _ s₂ => wpAny (model PG w) A (execs body env) (fun f s₃ => match f with
        | .next | .cont => ∃ m₂ l₂, J (i + 1) m₂ l₂ ∧ (∀ p ∈ l₂, p.1 ≠ I) ∧ Stt g L outer frs0 s₀ m₂ ((I, oI) :: l₂) s₃
        | .brk => R (.ok .next) s₃
        | .ret v => R (.ok (.ret v)) s₃) (notedBy (model PG w) A env fun e s' => R (.error e) s') s₂) (notedBy (model PG w) A env fun e s' => R (.error e) s') s₁)
    (done : ∀ m' l' s', J n m' l' → Stt g L outer frs0 s₀ m' l' s' → R (.ok .next) s') :
    wpAny (model PG w) A (pyIter xv) (fun it s' => codeAny (model PG w) A (.forLoop target it body [] env) R s') E s := by
  refine hsrc _ _ fun I fp St h W st hfp hfp2 fI kp go => ?_
  obtain ⟨oI, eI⟩ := go.2 _ _ st
  have kb : KB [] s { s with heap := h } := KB.of (tk := s.toks) fun b o _ e => kp b o e
  obtain ⟨y, hl⟩ := x.add fI kb eI
  refine codeAny_forLoop_any (fun k s' => ∃ (i : Nat) (m₁ : Str → Option Value) (l₁ : List (Addr × Obj)) (oI' : Obj), k = n + 1 - i ∧ i ≤ n ∧ J i m₁ l₁ ∧ (∀ p ∈ l₁, p.1 ≠ I) ∧ Stt g L outer frs0 s₀ m₁ ((I, oI') :: l₁) s' ∧ St i s'.heap) ?_ (n + 1) ⟨0, m, l, oI, rfl, Nat.zero_le _, h0, hl, y, st⟩
  rintro k s' ⟨i, m₁, l₁, oI', rfl, hi, hJ, hl₁, y, st⟩
  by_cases hlt : i < n
  · refine W.item i s' _ _ hlt st fun v h' tk hP st' hk => ?_
    obtain ⟨o', he⟩ := go.2 _ _ st'
    have y' := y.turnAt (tk := tk) hl₁ hk he
    refine go.1 _ _ _ _ _ _ st' ?_
    refine wpAny_mono (turn I o' i v m₁ l₁ _ hlt hP hJ hl hl₁ y') (fun _ s₂ h₂ => wpAny_mono h₂ (fun f s₃ h₃ => ?_) fun _ _ q => q) fun _ _ q => q
    have fin : (∃ m₂ l₂, J (i + 1) m₂ l₂ ∧ (∀ p ∈ l₂, p.1 ≠ I) ∧ Stt g L outer frs0 s₀ m₂ ((I, o') :: l₂) s₃) → ∃ k, k < n + 1 - i ∧ ∃ (i : Nat) (m₁ : Str → Option Value) (l₁ : List (Addr × Obj)) (oI' : Obj), k = n + 1 - i ∧ i ≤ n ∧ J i m₁ l₁ ∧ (∀ p ∈ l₁, p.1 ≠ I) ∧ Stt g L outer frs0 s₀ m₁ ((I, oI') :: l₁) s₃ ∧ St i s₃.heap := by
      rintro ⟨m₂, l₂, hJ₂, hl₂, y₂⟩
      refine ⟨n + 1 - (i + 1), by omega, i + 1, m₂, l₂, o', rfl, hlt, hJ₂, hl₂, y₂, W.frame _ _ _ st' fun b hb o q => ?_⟩
      by_cases hbI : b = I
      · subst hbI
        rw [he] at q; cases q
        exact (y₂.news _ (.head _)).1
      · obtain ⟨ob, hob⟩ := hfs b ((hfp2 b hb).resolve_left hbI)
        have e1 := hob i m₁ l₁ _ hJ (y'.sub fun p hp => .tail _ hp)
        have e2 := hob (i + 1) m₂ l₂ s₃ hJ₂ (y₂.sub fun p hp => .tail _ hp)
        rw [e2]
        exact e1.symm.trans q
    cases f with
    | next => exact fin h₃
    | cont => exact fin h₃
    | brk => exact h₃
    | ret v => exact h₃
  · have hin : i = n := by omega
    subst hin
    refine W.done s' _ _ st fun h' tk hk => wpAny_execs_nil ?_
    refine done m₁ l₁ _ hJ ?_
    obtain ⟨h, tk', frs, rfl, sl, ok, F, N, off⟩ := y
    have k' : ∀ b o, b ≠ I → h.get? b = some o → h'.get? b = some o := fun b o n q => hk b o (fun hm => n (List.mem_singleton.mp hm)) q
    have NI := N (I, oI') (.head _)
    obtain ⟨oL, es, ep, hL, r⟩ := F.ns
    refine ⟨h', tk, frs, rfl, sl, ok, ⟨⟨oL, es, ep, k' _ _ (Ne.symm NI.2.1) hL, r⟩, fun b o q => k' b o (fun q' => ?_) (F.keep b o q), F.above⟩, fun p hp => ?_, fun p hp b hb => off p hp b (.tail _ hb)⟩
    · rw [q', NI.2.2] at q; cases q
    · have P := N p (.tail _ hp)
      refine ⟨k' _ _ ?_ P.1, P.2⟩
      rcases List.mem_append.mp hp with q | q
      · exact hl₁ p q
      · exact off p q I (.head _)
end
end Mine
end PartCel

section PartPu1
theorem Mine.anewPu1 : True := by
  w_top off
  trivial
set_option Elab.async false
namespace Mine

/-! the sorter's rounds, plainly -/
theorem relaxes {l : List Nat} : ∀ {σ : PS}, (∀ j ∈ l, (l.count j : Int) ≤ σ.np j) →
    ∃ new : List Nat, (l.foldl relax σ).rd = σ.rd ++ new ∧ new.Nodup ∧ (∀ j, (l.foldl relax σ).np j = σ.np j - l.count j) ∧ ∀ j, j ∈ new ↔ j ∈ l ∧ σ.np j = l.count j := by
  induction l with
  | nil => intro σ _; exact ⟨[], by simp, by simp, by simp, by simp⟩
  | cons x r ih =>
    intro σ h
    have hx : ((r.count x : Nat) : Int) + 1 ≤ σ.np x := by
      have := h x (.head _)
      rw [List.count_cons_self] at this
      push_cast at this
      exact this
    have hnp : ∀ j, (relax σ x).np j = if j = x then σ.np x - 1 else σ.np j := fun j => rfl
    obtain ⟨new, h1, h2, h3, h4⟩ := ih (σ := relax σ x) fun j hj => by
      rw [hnp]
      by_cases e : j = x
      · subst e; rw [if_pos rfl]; omega
      · rw [if_neg e]
        have := h j (.tail _ hj)
        rwa [List.count_cons_of_ne (Ne.symm e)] at this
    refine ⟨(if σ.np x - 1 = 0 then [x] else []) ++ new, ?_, ?_, fun j => ?_, fun j => ?_⟩
    · rw [List.foldl_cons, h1]
      show (if σ.np x - 1 = 0 then σ.rd ++ [x] else σ.rd) ++ new = _
      split <;> simp
    · split
      · rename_i hz
        refine List.nodup_append.mpr ⟨by simp, h2, fun a ha b hb e => ?_⟩
        rw [List.mem_singleton.mp ha] at e
        subst e
        have := ((h4 x).mp hb).1
        have : 0 < r.count x := List.count_pos_iff.mpr this
        omega
      · simpa using h2
    · rw [List.foldl_cons, h3, hnp]
      by_cases e : j = x
      · subst e; rw [if_pos rfl, List.count_cons_self]; push_cast; omega
      · rw [if_neg e, List.count_cons_of_ne (Ne.symm e)]
    · rw [List.mem_append, h4, hnp, List.mem_cons]
      by_cases e : j = x
      · subst e
        rw [if_pos rfl, List.count_cons_self]
        push_cast
        by_cases hz : σ.np j - 1 = 0
        · rw [if_pos hz]
          have : r.count j = 0 := by omega
          simp; omega
        · rw [if_neg hz]
          simp only [List.not_mem_nil, false_or, true_or, true_and]
          constructor
          · intro q; omega
          · intro q
            refine ⟨List.count_pos_iff.mp ?_, by omega⟩
            omega
      · rw [if_neg e, List.count_cons_of_ne (Ne.symm e)]
        have : j ∉ (if σ.np x - 1 = 0 then [x] else []) := by split <;> simp [e]
        simp [this, e]

/-- how many tellings of names not yet done lead to j -/
noncomputable def cnt (su : Nat → List Nat) (dn : Nat → Bool) (j : Nat) : Nat := (([0, 1, 2, 3, 4] : List Nat).map fun k => if dn k then 0 else (su k).count j).sum
theorem cnt_zero {su : Nat → List Nat} {dn : Nat → Bool} {j : Nat} : cnt su dn j = 0 ↔ ∀ k < 5, j ∈ su k → dn k = true := by
  have h : ∀ k, (if dn k then 0 else (su k).count j) = 0 ↔ (j ∈ su k → dn k = true) := fun k => by
    cases q : dn k with
    | true => simp
    | false => simp [List.count_eq_zero]
  unfold cnt
  simp only [List.map_cons, List.map_nil, List.sum_cons, List.sum_nil, Nat.add_zero, Nat.add_eq_zero_iff, h]
  constructor
  · rintro ⟨h0, h1, h2, h3, h4⟩ k hk
    match k, hk with
    | 0, _ => exact h0
    | 1, _ => exact h1
    | 2, _ => exact h2
    | 3, _ => exact h3
    | 4, _ => exact h4
  · intro h
    exact ⟨h 0 (by decide), h 1 (by decide), h 2 (by decide), h 3 (by decide), h 4 (by decide)⟩
theorem cnt_done {su : Nat → List Nat} {dn : Nat → Bool} {j k : Nat} (hk : k < 5) (hd : dn k = false) : cnt su (fun i => dn i || i == k) j + (su k).count j = cnt su dn j := by
  have h : ∀ i, (if (dn i || i == k) then 0 else (su i).count j) = if i = k then 0 else if dn i then 0 else (su i).count j := fun i => by
    by_cases e : i = k
    · subst e; simp
    · have : (i == k) = false := by simpa using e
      rw [this, Bool.or_false, if_neg e]
  have hk0 : (if dn k then 0 else (su k).count j) = (su k).count j := by rw [hd]; rfl
  unfold cnt
  simp only [List.map_cons, List.map_nil, List.sum_cons, List.sum_nil, Nat.add_zero, h]
  match k, hk with
  | 0, _ => simp only [hk0]; simp; omega
  | 1, _ => simp only [hk0]; simp; omega
  | 2, _ => simp only [hk0]; simp; omega
  | 3, _ => simp only [hk0]; simp; omega
  | 4, _ => simp only [hk0]; simp; omega

/-- between the doings of one round -/
structure MInv (su : Nat → List Nat) (out : List Nat) (σ : PS) (dn : Nat → Bool) : Prop where
  nd : (out ++ σ.rd).Nodup
  lt : ∀ j ∈ out ++ σ.rd, j < 5
  dno : ∀ k, dn k = true → k ∈ out
  np : ∀ j < 5, j ∉ out → σ.np j = cnt su dn j
  z : ∀ j < 5, (j ∈ out ∨ j ∈ σ.rd) ↔ cnt su dn j = 0
theorem MInv.doOne {su : Nat → List Nat} {out : List Nat} {σ : PS} {dn : Nat → Bool} (h : MInv su out σ dn) (hsu : ∀ k < 5, ∀ j ∈ su k, j < 5) {k : Nat} (hk : k ∈ out) (hd : dn k = false) :
    MInv su out (doneOne su σ k) (fun i => dn i || i == k) ∧ ∀ i ∈ out, i ≠ k → (doneOne su σ k).np i = σ.np i := by
  have hk5 : k < 5 := h.lt k (List.mem_append_left _ hk)
  have pos : ∀ j ∈ su k, j < 5 ∧ cnt su dn j ≠ 0 := fun j hj => ⟨hsu k hk5 j hj, fun q => by have := cnt_zero.mp q k hk5 hj; rw [hd] at this; cases this⟩
  have notin : ∀ j ∈ su k, j ∉ out ∧ j ∉ σ.rd := fun j hj => by
    exact not_or.mp fun q => (pos j hj).2 ((h.z j (pos j hj).1).mp q)
  have hnp0 : ∀ j, j ≠ k → (outOne σ k).np j = σ.np j := fun j e => if_neg e
  obtain ⟨new, h1, h2, h3, h4⟩ := relaxes (l := su k) (σ := outOne σ k) fun j hj => by
    have hjk : j ≠ k := fun e => (notin j hj).1 (e ▸ hk)
    rw [hnp0 j hjk, h.np j (pos j hj).1 (notin j hj).1]
    have := cnt_done (su := su) (j := j) hk5 hd
    omega
  have hrd : (doneOne su σ k).rd = σ.rd ++ new := h1
  have hnew : ∀ j ∈ new, j ∉ out ∧ j ∉ σ.rd ∧ j < 5 := fun j hj => ⟨(notin j ((h4 j).mp hj).1).1, (notin j ((h4 j).mp hj).1).2, (pos j ((h4 j).mp hj).1).1⟩
  have hnp : ∀ j, j ≠ k → (doneOne su σ k).np j = σ.np j - (su k).count j := fun j e => by
    show ((su k).foldl relax (outOne σ k)).np j = _
    rw [h3, hnp0 j e]
  refine ⟨⟨?_, ?_, ?_, ?_, ?_⟩, ?_⟩
  · rw [hrd, ← List.append_assoc]
    refine List.nodup_append.mpr ⟨h.nd, h2, fun a ha b hb e => ?_⟩
    subst e
    rcases List.mem_append.mp ha with q | q
    · exact (hnew a hb).1 q
    · exact (hnew a hb).2.1 q
  · intro j hj
    rw [hrd, ← List.append_assoc] at hj
    rcases List.mem_append.mp hj with q | q
    · exact h.lt j q
    · exact (hnew j q).2.2
  · intro i hi
    rcases Bool.or_eq_true_iff.mp hi with q | q
    · exact h.dno i q
    · rw [eq_of_beq q]; exact hk
  · intro j hj hjo
    have hjk : j ≠ k := fun e => hjo (e ▸ hk)
    rw [hnp j hjk, h.np j hj hjo]
    have := cnt_done (su := su) (j := j) hk5 hd
    omega
  · intro j hj
    have hc := cnt_done (su := su) (j := j) hk5 hd
    rw [hrd, List.mem_append, ← or_assoc, h.z j hj, h4]
    constructor
    · rintro (q | ⟨q1, q2⟩)
      · omega
      · have hjk : j ≠ k := fun e => (notin j q1).1 (e ▸ hk)
        rw [hnp0 j hjk, h.np j hj (notin j q1).1] at q2
        omega
    · intro q
      by_cases e : cnt su dn j = 0
      · exact .inl e
      · refine .inr ?_
        have hj0 : 0 < (su k).count j := by omega
        have q1 : j ∈ su k := List.count_pos_iff.mp hj0
        have hjk : j ≠ k := fun e => (notin j q1).1 (e ▸ hk)
        refine ⟨q1, ?_⟩
        rw [hnp0 j hjk, h.np j hj (notin j q1).1]
        omega
  · intro i hi e
    rw [hnp i e]
    have : (su k).count i = 0 := List.count_eq_zero.mpr fun q => (notin i q).1 hi
    rw [this]; simp
theorem MInv.doAll {su : Nat → List Nat} {out : List Nat} (hsu : ∀ k < 5, ∀ j ∈ su k, j < 5) {ks : List Nat} : ∀ {σ : PS} {dn : Nat → Bool}, MInv su out σ dn → ks.Nodup → (∀ k ∈ ks, k ∈ out ∧ dn k = false ∧ σ.np k = -1) →
    doneOk su σ ks ∧ ∃ dn', MInv su out (ks.foldl (doneOne su) σ) dn' ∧ ∀ i, dn' i = true ↔ dn i = true ∨ i ∈ ks := by
  induction ks with
  | nil => intro σ dn h _ _; exact ⟨trivial, dn, h, by simp⟩
  | cons k r ih =>
    intro σ dn h hn hk
    obtain ⟨h1, h2⟩ := h.doOne hsu (hk k (.head _)).1 (hk k (.head _)).2.1
    have hkr : k ∉ r := (List.nodup_cons.mp hn).1
    obtain ⟨h3, dn', h4, h5⟩ := ih h1 (List.nodup_cons.mp hn).2 fun i hi => by
      have hik : i ≠ k := fun e => hkr (e ▸ hi)
      have := hk i (.tail _ hi)
      refine ⟨this.1, ?_, (h2 i this.1 hik).trans this.2.2⟩
      rw [this.2.1]; simpa using hik
    refine ⟨⟨(hk k (.head _)).2.2, h3⟩, dn', h4, fun i => ?_⟩
    rw [h5]
    simp only [Bool.or_eq_true, beq_iff_eq, List.mem_cons]
    exact or_assoc

/-- one round: what is ready goes out, all of it but held is done -/
noncomputable def rndP (su : Nat → List Nat) (held : Nat) (p : PS × List Nat) : PS × List Nat :=
  ((p.1.rd.filter fun k => k != held).foldl (doneOne su) ⟨fun j => if j ∈ p.1.rd then -1 else p.1.np j, []⟩, p.2 ++ p.1.rd)
noncomputable def rndN (su : Nat → List Nat) (held : Nat) (σ : PS) : Nat → PS × List Nat
  | 0 => (σ, [])
  | r + 1 => rndP su held (rndN su held σ r)
/-- between rounds -/
structure RInv (su : Nat → List Nat) (held : Nat) (p : PS × List Nat) (dn : Nat → Bool) : Prop where
  m : MInv su p.2 p.1 dn
  h : dn held = false
  o : ∀ k ∈ p.2, dn k = true ∨ k = held
theorem RInv.next {su : Nat → List Nat} {held : Nat} {p : PS × List Nat} {dn : Nat → Bool} (h : RInv su held p dn) (hsu : ∀ k < 5, ∀ j ∈ su k, j < 5) :
    doneOk su ⟨fun j => if j ∈ p.1.rd then -1 else p.1.np j, []⟩ (p.1.rd.filter fun k => k != held) ∧ ∃ dn', RInv su held (rndP su held p) dn' := by
  obtain ⟨σ, out⟩ := p
  have hm := h.m
  have hnd := hm.nd
  rw [List.nodup_append] at hnd
  have hdis : ∀ j ∈ σ.rd, j ∉ out := fun j hj ho => hnd.2.2 j ho j hj rfl
  have m1 : MInv su (out ++ σ.rd) ⟨fun j => if j ∈ σ.rd then -1 else σ.np j, []⟩ dn := by
    refine ⟨by simpa using hm.nd, by simpa using hm.lt, fun k hk => List.mem_append_left _ (hm.dno k hk), fun j hj hjo => ?_, fun j hj => ?_⟩
    · rw [List.mem_append, not_or] at hjo
      show (if j ∈ σ.rd then (-1 : Int) else σ.np j) = _
      rw [if_neg hjo.2]
      exact hm.np j hj hjo.1
    · rw [← hm.z j hj, List.mem_append]; simp
  obtain ⟨h1, dn', h2, h3⟩ := m1.doAll hsu (ks := σ.rd.filter fun k => k != held) (hnd.2.1.filter _) fun k hk => by
    have hk' := (List.mem_filter.mp hk).1
    refine ⟨List.mem_append_right _ hk', ?_, if_pos hk'⟩
    cases q : dn k with
    | false => rfl
    | true => exact absurd (hm.dno k q) (hdis k hk')
  refine ⟨h1, dn', h2, ?_, fun k hk => ?_⟩
  · cases q : dn' held with
    | false => rfl
    | true =>
      rcases (h3 held).mp q with q | q
      · rw [h.h] at q; cases q
      · have := (List.mem_filter.mp q).2
        simp at this
  · rcases List.mem_append.mp hk with q | q
    · rcases h.o k q with q | q
      · exact .inl ((h3 k).mpr (.inl q))
      · exact .inr q
    · by_cases e : k = held
      · exact .inr e
      · exact .inl ((h3 k).mpr (.inr (List.mem_filter.mpr ⟨q, by simpa using e⟩)))
theorem rinv_start {su : Nat → List Nat} {held : Nat} {np : Nat → Int} {rd : List Nat} (hnp : ∀ j < 5, np j = cnt su (fun _ => false) j) (hrd : rd.Nodup) (hr : ∀ j, j ∈ rd ↔ j < 5 ∧ np j = 0) : RInv su held (⟨np, rd⟩, []) (fun _ => false) := by
  refine ⟨⟨by simpa using hrd, fun j hj => ((hr j).mp (by simpa using hj)).1, fun k hk => (by cases hk), fun j hj _ => hnp j hj, fun j hj => ?_⟩, rfl, fun k hk => (by cases hk)⟩
  show (j ∈ [] ∨ j ∈ rd) ↔ _
  rw [hr, hnp j hj]
  simp [hj]
theorem rinv_all {su : Nat → List Nat} {held : Nat} {σ : PS} {dn : Nat → Bool} (h : RInv su held (σ, []) dn) (hsu : ∀ k < 5, ∀ j ∈ su k, j < 5) (r : Nat) : ∃ dn', RInv su held (rndN su held σ r) dn' := by
  induction r with
  | zero => exact ⟨dn, h⟩
  | succ r ih => obtain ⟨dn', h'⟩ := ih; exact (h'.next hsu).2

/-- a way of steps leads from a to b -/
inductive Way (su : Nat → List Nat) : Nat → Nat → Prop
  | one {a b : Nat} : a < 5 → b ∈ su a → Way su a b
  | more {a b c : Nat} : Way su a b → b < 5 → c ∈ su b → Way su a c
theorem RInv.sound {su : Nat → List Nat} {held : Nat} {p : PS × List Nat} {dn : Nat → Bool} (h : RInv su held p dn) {j : Nat} (w : Way su held j) : j ∉ p.2 := by
  induction w with
  | @one b ha hb =>
    intro hj
    have h5 := h.m.lt b (List.mem_append_left _ hj)
    have := cnt_zero.mp ((h.m.z b h5).mp (.inl hj)) _ ha hb
    rw [h.h] at this; cases this
  | @more b c w hb hc ih =>
    intro hj
    have h5 := h.m.lt c (List.mem_append_left _ hj)
    have := cnt_zero.mp ((h.m.z c h5).mp (.inl hj)) _ hb hc
    exact ih (h.m.dno _ this)
theorem rounds_full {su : Nat → List Nat} {held : Nat} {σ : PS} {dn : Nat → Bool} (h : RInv su held (σ, []) dn) (hsu : ∀ k < 5, ∀ j ∈ su k, j < 5) (hh : held < 5) (rk : Nat → Nat) (hrk : ∀ k < 5, ∀ j ∈ su k, rk k < rk j) (r : Nat) :
    ∀ j < 5, ¬ Way su held j → rk j < r → j ∈ (rndN su held σ r).2 := by
  induction r with
  | zero => intro j _ _ q; exact absurd q (Nat.not_lt_zero _)
  | succ r ih =>
    intro j hj hw hr
    obtain ⟨dn', h'⟩ := rinv_all h hsu r
    have hall : ∀ k < 5, j ∈ su k → dn' k = true := fun k hk hjk => by
      have h1 := hrk k hk j hjk
      have hk' := ih k hk (fun w => hw (.more w hk hjk)) (by omega)
      rcases h'.o k hk' with q | q
      · exact q
      · exact absurd (.one (q ▸ hk) (q ▸ hjk)) hw
    have := (h'.m.z j hj).mpr (cnt_zero.mpr hall)
    show j ∈ (rndN su held σ r).2 ++ (rndN su held σ r).1.rd
    exact List.mem_append.mpr this
/-- five rounds hand out just the names that do not lie behind held -/
theorem rounds_five {su : Nat → List Nat} {held : Nat} {σ : PS} {dn : Nat → Bool} (h : RInv su held (σ, []) dn) (hsu : ∀ k < 5, ∀ j ∈ su k, j < 5) (hh : held < 5) (rk : Nat → Nat) (hrk : ∀ k < 5, ∀ j ∈ su k, rk k < rk j) (hr5 : ∀ k < 5, rk k < 5) :
    (rndN su held σ 5).2.Nodup ∧ ∀ j, j ∈ (rndN su held σ 5).2 ↔ j < 5 ∧ ¬ Way su held j := by
  obtain ⟨dn', h'⟩ := rinv_all h hsu 5
  refine ⟨(List.nodup_append.mp h'.m.nd).1, fun j => ⟨fun hj => ⟨h'.m.lt j (List.mem_append_left _ hj), fun w => h'.sound w hj⟩, fun ⟨hj, hw⟩ => rounds_full h hsu hh rk hrk 5 j hj hw (hr5 j hj)⟩⟩
end Mine
end PartPu1

section PartPu2
theorem Mine.anewPu2 : True := by
  w_top off
  trivial
set_option Elab.async false
namespace Mine
noncomputable abbrev Step := Nat × Nat × Nat
noncomputable def addP (p : (Nat → Int) × (Nat → List Nat)) (st : Step) : (Nat → Int) × (Nat → List Nat) :=
  (fun j => if j = st.2.1 then p.1 j + st.2.2 else p.1 j, fun j => if j = st.1 then p.2 j ++ List.replicate st.2.2 st.2.1 else p.2 j)
noncomputable def addAll (l : List Step) : (Nat → Int) × (Nat → List Nat) := l.foldl addP (fun _ => 0, fun _ => [])
theorem addAll_snoc (l : List Step) (st : Step) : addAll (l ++ [st]) = addP (addAll l) st := by unfold addAll; rw [List.foldl_append]; rfl
theorem snoc_ind {α : Type} {P : List α → Prop} (h0 : P []) (h1 : ∀ l x, P l → P (l ++ [x])) (l : List α) : P l := by
  have : ∀ l : List α, P l.reverse := fun l => by
    induction l with
    | nil => exact h0
    | cons a r ih => rw [List.reverse_cons]; exact h1 _ _ ih
  have := this l.reverse
  rwa [List.reverse_reverse] at this
theorem addAll_mem (l : List Step) : ∀ k j, j ∈ (addAll l).2 k ↔ ∃ n, 1 ≤ n ∧ (k, j, n) ∈ l := by
  induction l using snoc_ind with
  | h0 => intro k j; simp [addAll]
  | h1 l st ih =>
    intro k j
    rw [addAll_snoc]
    show j ∈ (if k = st.1 then (addAll l).2 k ++ List.replicate st.2.2 st.2.1 else (addAll l).2 k) ↔ _
    by_cases e : k = st.1
    · rw [if_pos e, List.mem_append, ih, List.mem_replicate]
      constructor
      · rintro (⟨n, h1, h2⟩ | ⟨h1, rfl⟩)
        · exact ⟨n, h1, List.mem_append_left _ h2⟩
        · exact ⟨st.2.2, by omega, List.mem_append_right _ (by rw [e]; exact .head _)⟩
      · rintro ⟨n, h1, h2⟩
        rcases List.mem_append.mp h2 with h2 | h2
        · exact .inl ⟨n, h1, h2⟩
        · have := List.mem_singleton.mp h2
          rw [← this]
          exact .inr ⟨by show n ≠ 0; omega, rfl⟩
    · rw [if_neg e, ih]
      constructor
      · rintro ⟨n, h1, h2⟩; exact ⟨n, h1, List.mem_append_left _ h2⟩
      · rintro ⟨n, h1, h2⟩
        rcases List.mem_append.mp h2 with h2 | h2
        · exact ⟨n, h1, h2⟩
        · exact absurd (congrArg (·.1) (List.mem_singleton.mp h2)) e
theorem addAll_cnt (l : List Step) (hl : ∀ p ∈ l, p.1 < 5) : ∀ j, (addAll l).1 j = (cnt (addAll l).2 (fun _ => false) j : Int) := by
  induction l using snoc_ind with
  | h0 => intro j; simp [addAll, cnt]
  | h1 l st ih =>
    intro j
    have ih := ih (fun p hp => hl p (List.mem_append_left _ hp)) j
    have h5 : st.1 < 5 := hl st (List.mem_append_right _ (.head _))
    rw [addAll_snoc]
    show (if j = st.2.1 then (addAll l).1 j + st.2.2 else (addAll l).1 j) = _
    have hc : ∀ k, ((addP (addAll l) st).2 k).count j = ((addAll l).2 k).count j + if k = st.1 then (if j = st.2.1 then st.2.2 else 0) else 0 := fun k => by
      show (if k = st.1 then (addAll l).2 k ++ List.replicate st.2.2 st.2.1 else (addAll l).2 k).count j = _
      by_cases e : k = st.1
      · rw [if_pos e, if_pos e, List.count_append, List.count_replicate]
        by_cases e2 : j = st.2.1
        · simp [e2]
        · have : (st.2.1 == j) = false := by simpa using Ne.symm e2
          simp [this, e2]
      · rw [if_neg e, if_neg e, Nat.add_zero]
    rw [ih]
    unfold cnt
    simp only [List.map_cons, List.map_nil, List.sum_cons, List.sum_nil, Nat.add_zero, hc, Bool.false_eq_true, if_false]
    match h : st.1, h5 with
    | 0, _ => by_cases e : j = st.2.1 <;> simp [e] <;> omega
    | 1, _ => by_cases e : j = st.2.1 <;> simp [e] <;> omega
    | 2, _ => by_cases e : j = st.2.1 <;> simp [e] <;> omega
    | 3, _ => by_cases e : j = st.2.1 <;> simp [e] <;> omega
    | 4, _ => by_cases e : j = st.2.1 <;> simp [e] <;> omega
theorem addAll_len (l : List Step) (hl : ∀ p ∈ l, p.2.2 ≤ 3) : ∀ k, ((addAll l).2 k).length ≤ 3 * l.length := by
  induction l using snoc_ind with
  | h0 => intro k; simp [addAll]
  | h1 l st ih =>
    intro k
    have ih := ih (fun p hp => hl p (List.mem_append_left _ hp)) k
    have h3 : st.2.2 ≤ 3 := hl st (List.mem_append_right _ (.head _))
    rw [addAll_snoc]
    show (if k = st.1 then (addAll l).2 k ++ List.replicate st.2.2 st.2.1 else (addAll l).2 k).length ≤ _
    rw [List.length_append, List.length_singleton]
    split
    · rw [List.length_append, List.length_replicate]; omega
    · omega

noncomputable def runOut (sts : List Step) (held : Nat) : List Nat := (rndN (addAll sts.reverse).2 held ⟨(addAll sts.reverse).1, ready0 (addAll sts.reverse).1⟩ 5).2
/-- a step of the list -/
def Ed (sts : List Step) (a b : Nat) : Prop := ∃ n, 1 ≤ n ∧ (a, b, n) ∈ sts
/-- a way of steps of the list -/
inductive Beh (sts : List Step) : Nat → Nat → Prop
  | one {a b : Nat} : Ed sts a b → Beh sts a b
  | more {a b c : Nat} : Beh sts a b → Ed sts b c → Beh sts a c
theorem ready0_nodup (np : Nat → Int) : (ready0 np).Nodup := by unfold ready0; exact List.Pairwise.filter _ (by decide)
theorem ready0_mem (np : Nat → Int) (j : Nat) : j ∈ ready0 np ↔ j < 5 ∧ np j = 0 := by
  unfold ready0
  rw [List.mem_filter]
  have : j ∈ [4, 3, 2, 1, 0] ↔ j < 5 := by simp only [List.mem_cons, List.not_mem_nil, or_false]; omega
  rw [this, beq_iff_eq]
theorem run_start (sts : List Step) (held : Nat) (hs : ∀ p ∈ sts, p.1 < 5) : RInv (addAll sts.reverse).2 held (⟨(addAll sts.reverse).1, ready0 (addAll sts.reverse).1⟩, []) (fun _ => false) :=
  rinv_start (fun j _ => addAll_cnt _ (fun p hp => hs p (List.mem_reverse.mp hp)) j) (ready0_nodup _) (ready0_mem _)
theorem addAll_ed (sts : List Step) (k j : Nat) : j ∈ (addAll sts.reverse).2 k ↔ Ed sts k j := by
  rw [addAll_mem]; unfold Ed; simp
theorem runOut_mem (sts : List Step) (held : Nat) (hs : ∀ p ∈ sts, p.1 < 5 ∧ p.2.1 < 5) (hh : held < 5) (rk : Nat → Nat) (hrk : ∀ p ∈ sts, rk p.1 < rk p.2.1) (hr5 : ∀ k < 5, rk k < 5) :
    (runOut sts held).Nodup ∧ ∀ j, j ∈ runOut sts held ↔ j < 5 ∧ ¬ Beh sts held j := by
  have h1 : ∀ k < 5, ∀ j ∈ (addAll sts.reverse).2 k, j < 5 := fun k _ j hj => by
    obtain ⟨n, _, h⟩ := (addAll_ed sts k j).mp hj; exact (hs _ h).2
  have h2 : ∀ k < 5, ∀ j ∈ (addAll sts.reverse).2 k, rk k < rk j := fun k _ j hj => by
    obtain ⟨n, _, h⟩ := (addAll_ed sts k j).mp hj; exact hrk _ h
  have hed : ∀ a b, Ed sts a b → a < 5 := fun a b ⟨n, _, h⟩ => (hs _ h).1
  obtain ⟨a, b⟩ := rounds_five (run_start sts held fun p hp => (hs p hp).1) h1 hh rk h2 hr5
  have w1 : ∀ a j, Beh sts a j → Way (addAll sts.reverse).2 a j := fun a j w => by
    induction w with
    | one e => exact .one (hed _ _ e) ((addAll_ed ..).mpr e)
    | more _ e ih => exact .more ih (hed _ _ e) ((addAll_ed ..).mpr e)
  have w2 : ∀ a j, Way (addAll sts.reverse).2 a j → Beh sts a j := fun a j w => by
    induction w with
    | one _ e => exact .one ((addAll_ed ..).mp e)
    | more _ h5 e ih => exact .more ih ((addAll_ed ..).mp e)
  exact ⟨a, fun j => (b j).trans ⟨fun ⟨x, y⟩ => ⟨x, fun w => y (w1 _ _ w)⟩, fun ⟨x, y⟩ => ⟨x, fun w => y (w2 _ _ w)⟩⟩⟩
end Mine
end PartPu2

section PartRun0
theorem Mine.anewRun0 : True := by
  w_top off
  trivial
open PySem PySem.W PySem.Calls PyProof.Rows
set_option Elab.async false
set_option maxRecDepth 100000
set_option maxHeartbeats 4000000
namespace Mine

/-- values that are tuples of three numbers -/
inductive StepsAre (g : Heap) : List Value → List Step → Prop
  | nil : StepsAre g [] []
  | cons {T : Addr} {e l n : Nat} {te tl tn : Tok} {vs : List Value} {sts : List Step} : g.IsTuple T #[.int (Int.ofNat e) te, .int (Int.ofNat l) tl, .int (Int.ofNat n) tn] → StepsAre g vs sts → StepsAre g (.ref T :: vs) ((e, l, n) :: sts)
theorem StepsAre.length {g : Heap} {vs : List Value} {sts : List Step} (h : StepsAre g vs sts) : vs.length = sts.length := by
  induction h with
  | nil => rfl
  | cons _ _ ih => simp [ih]
theorem StepsAre.append {g : Heap} {vs vs' : List Value} {sts sts' : List Step} (h : StepsAre g vs sts) (h' : StepsAre g vs' sts') : StepsAre g (vs ++ vs') (sts ++ sts') := by
  induction h with
  | nil => exact h'
  | cons t _ ih => exact .cons t ih
theorem StepsAre.reverse {g : Heap} {vs : List Value} {sts : List Step} (h : StepsAre g vs sts) : StepsAre g vs.reverse sts.reverse := by
  induction h with
  | nil => exact .nil
  | cons t _ ih => rw [List.reverse_cons, List.reverse_cons]; exact ih.append (.cons t .nil)
theorem StepsAre.get {g : Heap} {vs : List Value} {sts : List Step} (h : StepsAre g vs sts) : ∀ {i : Nat} {st : Step}, sts[i]? = some st → ∃ T te tl tn, vs[i]? = some (.ref T) ∧ g.IsTuple T #[.int (Int.ofNat st.1) te, .int (Int.ofNat st.2.1) tl, .int (Int.ofNat st.2.2) tn] := by
  induction h with
  | nil => intro i st h; simp at h
  | @cons T e l n te tl tn vs sts t _ ih =>
    intro i st h
    cases i with
    | zero => simp at h; subst h; exact ⟨T, te, tl, tn, rfl, t⟩
    | succ i => simpa using ih (by simpa using h)
theorem StepsAre.keeps {g g' : Heap} {vs : List Value} {sts : List Step} (h : StepsAre g vs sts) (k : ∀ b o, g.get? b = some o → g'.get? b = some o) : StepsAre g' vs sts := by
  induction h with
  | nil => exact .nil
  | cons t _ ih => exact .cons (t.at fun o e => k _ _ e) ih
def StepsAt (g : Heap) (ax : Addr) (sts : List Step) : Prop := ∃ vs, g.IsList ax (List.toArray vs) ∧ StepsAre g vs sts

section
variable {w : World} {A : Around} {s : Shared}
theorem Src.rangeC {r : Addr} {a b c : Int} {t u v : Tok} {n : Nat} (hh : A.handled = none) (hr : IsRange s.heap r a b c t u v) (hsm : Builtin.Range.small a b c = true) (hn : Builtin.Range.rangeSize a b c = ((n : Nat) : Int)) :
    Src w A (.ref r) s n (fun i v => ∃ t, v = .int (a + i * c) t) [] := fun Q E k => by
  refine wpAny_pyIter_range hr hsm (k s.heap.objs.size [s.heap.objs.size] _ _ (Walks.range hh s.heap.objs.size a c n) ?_ (fun b hb => ?_) (fun b hb => by simpa using hb) (none_at _) (fun b o e => Heap.get?_push_of_some _ e) ?_)
  · show IsRangeIter _ _ _ _ _
    rw [hn]; simpa using Heap.get?_push_size _ rfl
  · rw [push_size, List.mem_singleton.mp hb]; exact Nat.lt_succ_self _
  · exact ⟨fun tg v i s' Q E st h => go_plain st rfl rfl (by decide) h, fun i h st => ⟨_, st⟩⟩
end

section
variable {g : Heap} {L : Addr} {outer : List Env} {frs0 l : List (Addr × Obj)} {s₀ s : Shared} {m : Str → Option Value}
  {w : World} {A : Around} {E : Value → Shared → Prop} {name : Str} {fscope : Scope} {fa : Addr} {cd : Value} {fcl : List (Str × Addr)}
theorem Stt.put3 {x y z : Str} {px py pz tp : Pos} {kt : Nat} {a b c : Value} {T : Addr} {Q : Unit → Shared → Prop} (Y : Stt g L outer frs0 s₀ m l s) (hh : A.handled = none) (ht : s.heap.IsTuple T #[a, b, c])
    (h : ∀ s', Stt g L outer frs0 s₀ (fun u => if u = z then some c else if u = y then some b else if u = x then some a else m u) l s' → Q () s')
    (hk : fscope.kind = .function) (hx : (envX name fscope L fa cd fcl).kindOf x = some .local) (hy : (envX name fscope L fa cd fcl).kindOf y = some .local) (hz : (envX name fscope L fa cd fcl).kindOf z = some .local) :
    wpAny (model PG w) A (assign (.Tuple [.Name x px, .Name y py, .Name z pz] kt tp) (envX name fscope L fa cd fcl) (.ref T)) Q E s := by
  refine wpAny_assign_Tuple hh ht rfl rfl fun h' ext => ?_
  have Y0 : Stt g L outer frs0 s₀ m l { s with heap := h' } := Y.kb (KB.of (tk := s.toks) fun b o hb e => ext b o (Nat.ne_of_lt (Heap.lt_size e)) e)
  show wpAny _ _ (assignInOrder [_, _, _] [a, b, c]) _ _ _
  refine assignInOrder_cons (wpAny_assign_Name (Y0.stX (fun s₁ _ Y₁ => ?_) hk hx))
  refine assignInOrder_cons (wpAny_assign_Name (Y₁.stX (fun s₂ _ Y₂ => ?_) hk hy))
  refine assignInOrder_cons (wpAny_assign_Name (Y₂.stX (fun s₃ _ Y₃ => ?_) hk hz))
  exact assignInOrder_nil (h _ Y₃)
end

section
variable {M : Model} {A : Around} {E : Value → Shared → Prop} {s : Shared} {K : Frag} {env : Env}
theorem MethodCallS {o : Expr} {name : Str} {apos pos : Pos} {args : List Expr} {Q : Value → Shared → Prop}
    (h : wpAny M A (eval o env) (fun ov s₁ => wpAny M A (getAttr ov name true) (fun f s₂ => wpAny M A (callWith pos f [] (backTo pos (starEach args env)) []) Q E s₂) E s₁) E s)
    (he : eval (.Call (.Attribute o name apos) args [] pos) env = (do
      let ov ← eval o env
      standAt apos.atName
      let (f, first) ← holding [ov] (do pure (← getAttr ov name true, ([] : List Value)))
      let p ← (pure pos : Sem Pos)
      callWith p f first (backTo pos (starEach args env)) [])) :
    wpAny M A (eval (.Call (.Attribute o name apos) args [] pos) env) Q E s := by
  rw [he]
  refine wpAny_bind (wpAny_mono h (fun ov s₁ h₁ => wpAny_bind (wpAny_standAt (wpAny_bind (wpAny_holding (wpAny_bind (wpAny_mono h₁ (fun f s₂ h₂ => wpAny_pure (wpAny_bind (wpAny_pure ?_))) fun _ _ x => x)))))) fun _ _ x => x)
  exact h₂
theorem callWith_MS2 {pos : Pos} {q g : Addr} {self : Value} {e : Expr} {rest : List Expr} {Q : Value → Shared → Prop} (hf : fnIn K g = true) (h : wpAny M A (spliced (backTo pos (starEach (e :: rest) env))) (fun vs s₁ => MethP K q g self s₁.heap ∧ wpAny M A (call (.ref q) vs) Q E s₁) E s)
    (he : starEach (e :: rest) env = (false, eval e env) :: starEach rest env) (hst : (backTo pos (starEach rest env)).any (·.1) = true) :
    wpAny M A (callWith pos (.ref q) [] (backTo pos (starEach (e :: rest) env)) []) Q E s := by
  rw [he] at h ⊢
  exact ks_call (by show (false || (backTo pos (starEach rest env)).any (·.1)) = true; rw [hst]; rfl) (keeps_M hf) (evalArgs_plain h)
theorem callWith_MS {pos p : Pos} {q g : Addr} {self : Value} {e : Expr} {Q : Value → Shared → Prop} (hf : fnIn K g = true) (h : wpAny M A (eval e env) (fun v s₁ => StarOf M A E v (fun vs s₂ => MethP K q g self s₂.heap ∧ wpAny M A (call (.ref q) vs) Q E s₂) s₁) E s)
    (he : starEach [.Starred e p] env = [(true, eval e env)]) :
    wpAny M A (callWith pos (.ref q) [] (backTo pos (starEach [.Starred e p] env)) []) Q E s := by
  rw [he]
  exact ks_call rfl (keeps_M hf) (ks_lone h)
end

theorem rep_flat {α : Type} (x : α) (k : Nat) : (List.replicate k [x]).flatten = List.replicate k x := by
  induction k with
  | zero => rfl
  | succ k ih => rw [List.replicate_succ, List.flatten_cons, ih, List.replicate_succ]; rfl
section
variable {g : Heap} {L : Addr} {outer : List Env} {frs0 l l' : List (Addr × Obj)} {s₀ s : Shared} {m : Str → Option Value}
  {w : World} {A : Around} {E : Value → Shared → Prop} {D b : Addr} {its its2 : Array Value} {n n2 : Nat}
theorem Stt.extT {Q : Value → Shared → Prop} (y : Stt g L outer frs0 s₀ m l s) (hb : s.heap.get? b = some { cls := .type "tuple", data := .seq its2 n2 }) (U : Upd D (listOf its n) (listOf (its ++ its2) (extE its its2 n)) l l') (hz : its.size + its2.size ≤ sizeLine)
    (h : ∀ s', Stt g L outer frs0 s₀ m l' s' → Q .none s') : wpAny (model PG w) A (call (.builtin "list.extend") [.ref D, .ref b]) Q E s := by
  obtain ⟨h', tk, frs, rfl, sl, ok, F, N, off⟩ := y
  exact extT_K F N hb (upd_app U fun p hp => off p hp D (List.mem_map_of_mem (upd_in U))) hz (fun h₂ F₂ N₂ => h _ ⟨h₂, tk, frs, rfl, sl, ok, F₂, N₂, by rw [upd_fst U]; exact off⟩)
theorem Stt.extL {Q : Value → Shared → Prop} (y : Stt g L outer frs0 s₀ m l s) (hb : s.heap.get? b = some (listOf its2 n2)) (U : Upd D (listOf its n) (listOf (its ++ its2) (extE its its2 n)) l l') (hz : its.size + its2.size ≤ sizeLine)
    (h : ∀ s', Stt g L outer frs0 s₀ m l' s' → Q .none s') : wpAny (model PG w) A (call (.builtin "list.extend") [.ref D, .ref b]) Q E s := by
  obtain ⟨h', tk, frs, rfl, sl, ok, F, N, off⟩ := y
  exact ext_K F N hb (upd_app U fun p hp => off p hp D (List.mem_map_of_mem (upd_in U))) hz (fun h₂ F₂ N₂ => h _ ⟨h₂, tk, frs, rfl, sl, ok, F₂, N₂, by rw [upd_fst U]; exact off⟩)
end
/-- a node just made -/
structure Nd where
  k : Nat
  I : Addr
  dI : Addr
  U : Addr
  tn : Tok
  td : Tok
noncomputable def ndL (ns : List Nd) : List (Addr × Obj) := ns.flatMap fun n => [(n.I, niObj n.dI n.U (.int 0 n.tn) (.int (Int.ofNat n.k) n.td)), (n.dI, dictOf [] 0), (n.U, listOf #[] 0)]
theorem ndL_snoc (ns : List Nd) (n : Nd) : ndL (ns ++ [n]) = ndL ns ++ [(n.I, niObj n.dI n.U (.int 0 n.tn) (.int (Int.ofNat n.k) n.td)), (n.dI, dictOf [] 0), (n.U, listOf #[] 0)] := by simp [ndL]
noncomputable abbrev ndK (ns : List Nd) : List (Int × Value) := ns.map fun n => (Int.ofNat n.k, .ref n.I)

/-- what a sorter's nodes hold -/
structure AR (v v' : SV) (p : (Nat → Int) × (Nat → List Nat)) : Prop where
  oD : v'.oD = v.oD
  nd : v'.nd = v.nd
  np : ∀ k < 5, ∃ t, v'.np k = .int (p.1 k) t
  su : ∀ k < 5, IntsAre (v'.su k) ((p.2 k).map Int.ofNat)
theorem AR.wf {w : World} {a : SA} {v v' : SV} {p : (Nat → Int) × (Nat → List Nat)} (x : AR v v' p) (wf : SWf w a v) : SWf w a v' := ⟨wf.n1, wf.n2, wf.n3, wf.nd, wf.oS, wf.odS, wf.oD, by rw [x.oD]; exact wf.d, wf.lo⟩
theorem ints_rep {x : Value} {n : Int} {t : Tok} (h : x = .int n t) (k : Nat) : IntsAre (List.replicate k x) (List.replicate k n) := by
  induction k with
  | zero => exact .nil
  | succ k ih => rw [List.replicate_succ, List.replicate_succ, h]; exact .cons _ _ (h ▸ ih)
theorem AR.add {v v1 v2 : SV} {p : (Nat → Int) × (Nat → List Nat)} (x : AR v v1 p) {e l n : Nat} {tl : Tok} (hl : l < 5) (A : AddTo v1 v2 l (.int (Int.ofNat l) tl) (List.replicate n e).length (List.replicate n e)) : AR v v2 (addP p (e, l, n)) := by
  refine ⟨A.oD.trans x.oD, A.nd.trans x.nd, fun k hk => ?_, fun k hk => ?_⟩
  · show ∃ t, v2.np k = .int (if k = l then p.1 k + n else p.1 k) t
    by_cases h : k = l
    · subst h
      obtain ⟨t, ht⟩ := x.np k hk
      obtain ⟨t', ht'⟩ := A.npl _ _ ht
      rw [List.length_replicate] at ht'
      exact ⟨t', by rw [if_pos rfl]; exact ht'⟩
    · obtain ⟨t, ht⟩ := x.np k hk
      exact ⟨t, by rw [if_neg h, A.np k h]; exact ht⟩
  · show IntsAre _ ((if k = e then p.2 k ++ List.replicate n l else p.2 k).map Int.ofNat)
    rw [A.su]
    by_cases h : k = e
    · rw [if_pos h, List.map_append, List.map_replicate]
      refine (x.su k hk).append ?_
      have : (List.replicate n e).filter (· == k) = List.replicate n e := by rw [h]; simp
      rw [this, List.map_replicate]
      exact ints_rep rfl n
    · rw [if_neg h]
      have : (List.replicate n e).filter (· == k) = [] := by
        rw [List.filter_eq_nil_iff]
        intro a ha
        rw [(List.mem_replicate.mp ha).2]
        simpa using Ne.symm h
      rw [this]; simpa using x.su k hk

/-- five nodes made are a sorter -/
theorem five {w : World} {a : SA} {v : SV} {pv fv : Value} {ns : List Nd} {c : Addr × Obj} (hk : ns.map (·.k) = [4, 3, 2, 1, 0]) (hd : v.oD.IsDictOf (intKind PG w) (ndK ns)) (lo : (a.D == sysModules) = false)
    (nod : ((c :: (sort0 w a v pv fv ++ ndL ns)).map (·.1)).Nodup) :
    ∃ (a' : SA) (v' : SV), a'.S = a.S ∧ SWf w a' v' ∧ (∀ k < 5, v'.su k = []) ∧ (∀ k < 5, ∃ t, v'.np k = .int 0 t) ∧ (∀ k < 5, ∃ t, v'.nd k = .int (Int.ofNat k) t) ∧ (∀ p ∈ sortL w a' v' .none pv fv, p ∈ sort0 w a v pv fv ++ ndL ns) ∧ c.1 ∉ (sortL w a' v' .none pv fv).map (·.1) := by
  obtain ⟨n4, n3, n2, n1, n0, rfl⟩ : ∃ n4 n3 n2 n1 n0 : Nd, ns = [n4, n3, n2, n1, n0] := by
    have := congrArg List.length hk
    clear hd nod hk
    match ns, this with
    | [a, b, c, d, e], _ => exact ⟨a, b, c, d, e, rfl⟩
  simp only [List.map_cons, List.map_nil, List.cons.injEq, and_true] at hk
  obtain ⟨k4, k3, k2, k1, k0⟩ := hk
  let P : Nat → Nd := fun k => match k with | 0 => n0 | 1 => n1 | 2 => n2 | 3 => n3 | _ => n4
  have hrev : [n0, n1, n2, n3, n4].Perm [n4, n3, n2, n1, n0] := List.reverse_perm [n4, n3, n2, n1, n0]
  have hperm : (nodesA ⟨a.S, a.dS, a.D, fun k => (P k).I, fun k => (P k).dI, fun k => (P k).U⟩).Perm ((ndL [n4, n3, n2, n1, n0]).map (·.1)) :=
    (List.Perm.flatMap_right (fun n : Nd => [n.I, n.dI, n.U]) hrev)
  have hmap : (c :: (sort0 w a v pv fv ++ ndL [n4, n3, n2, n1, n0])).map (·.1) = c.1 :: a.S :: a.dS :: a.D :: (ndL [n4, n3, n2, n1, n0]).map (·.1) := rfl
  rw [hmap] at nod
  obtain ⟨hc, nod⟩ := List.nodup_cons.mp nod
  obtain ⟨hS, nod⟩ := List.nodup_cons.mp nod
  obtain ⟨hdS, nod⟩ := List.nodup_cons.mp nod
  obtain ⟨hDn, hnn⟩ := List.nodup_cons.mp nod
  rw [List.mem_cons, not_or, List.mem_cons, not_or] at hS
  rw [List.mem_cons, not_or] at hdS
  refine ⟨⟨a.S, a.dS, a.D, fun k => (P k).I, fun k => (P k).dI, fun k => (P k).U⟩, { v with np := fun k => .int 0 (P k).tn, nd := fun k => .int (Int.ofNat (P k).k) (P k).td, su := fun _ => [], eu := fun _ => 0 }, rfl, ?_, fun k _ => rfl, fun k _ => ⟨_, rfl⟩, fun k hk => ?_, ?_, ?_⟩
  · refine ⟨hS.1, hS.2.1, hdS.1, hperm.nodup_iff.mpr hnn, fun hm => hS.2.2 (hperm.mem_iff.mp hm), fun hm => hdS.2 (hperm.mem_iff.mp hm), fun hm => hDn (hperm.mem_iff.mp hm), ?_, lo⟩
    have : n2iK ⟨a.S, a.dS, a.D, fun k => (P k).I, fun k => (P k).dI, fun k => (P k).U⟩ = ndK [n4, n3, n2, n1, n0] := by
      show [((4 : Int), Value.ref n4.I), (3, Value.ref n3.I), (2, Value.ref n2.I), (1, Value.ref n1.I), (0, Value.ref n0.I)] = _
      simp only [ndK, List.map_cons, List.map_nil, k4, k3, k2, k1, k0]
      rfl
    rw [this]; exact hd
  · match k, hk with
    | 0, _ => exact ⟨_, by show Value.int (Int.ofNat n0.k) _ = _; rw [k0]⟩
    | 1, _ => exact ⟨_, by show Value.int (Int.ofNat n1.k) _ = _; rw [k1]⟩
    | 2, _ => exact ⟨_, by show Value.int (Int.ofNat n2.k) _ = _; rw [k2]⟩
    | 3, _ => exact ⟨_, by show Value.int (Int.ofNat n3.k) _ = _; rw [k3]⟩
    | 4, _ => exact ⟨_, by show Value.int (Int.ofNat n4.k) _ = _; rw [k4]⟩
  · intro p hp
    have hp' : p ∈ (a.S, instObj 144 a.dS) :: (a.dS, sDict w a v .none pv fv) :: (a.D, v.oD) :: ndL [n0, n1, n2, n3, n4] := hp
    simp only [List.mem_cons] at hp'
    rcases hp' with h | h | h | h
    · exact h ▸ .head _
    · exact h ▸ .tail _ (.head _)
    · exact h ▸ .tail _ (.tail _ (.head _))
    · refine List.mem_append_right _ ?_
      exact (List.Perm.flatMap_right _ hrev).mem_iff.mp h
  · intro hm
    refine hc ?_
    have hm' : c.1 ∈ a.S :: a.dS :: a.D :: nodesA ⟨a.S, a.dS, a.D, fun k => (P k).I, fun k => (P k).dI, fun k => (P k).U⟩ := hm
    simp only [List.mem_cons] at hm' ⊢
    rcases hm' with h | h | h | h
    · exact .inl h
    · exact .inr (.inl h)
    · exact .inr (.inr (.inl h))
    · exact .inr (.inr (.inr (hperm.mem_iff.mp h)))
end Mine
end PartRun0

section PartRun
theorem Mine.anewRun : True := by
  w_top off
  trivial
open PySem PySem.W PySem.Calls PyProof.Rows
set_option Elab.async false
set_option maxRecDepth 100000
set_option maxHeartbeats 4000000
set_option linter.all false
namespace Mine
theorem fillRun : hd.heap_1 = hd.heap_1 ∧ PySem.Challenge.rw_mg0051_01 = PySem.Challenge.rw_mg0051_01 := by
  k_fill
  exact ⟨rfl, rfl⟩
local macro_rules | `(tactic| walk_at "call ref") => `(tactic| refine stopAt ?_)
local macro_rules | `(tactic| walk_at "pyIter ref") => `(tactic| refine stopAt ?_)
local macro_rules | `(tactic| walk_at "subscriptTail Name Slice ref ref") => `(tactic| refine stopAt ?_)
local macro_rules | `(tactic| walk_at "binaryOp Mult ref int") => `(tactic| refine stopAt ?_)
local macro_rules | `(tactic| walk_at "StarOf ref") => `(tactic| refine stopAt ?_)
local macro_rules | `(tactic| walk_at "call builtin:sorted") => `(tactic| refine stopAt ?_)
local macro_rules | `(tactic| k_data) => `(tactic| first | with_reducible exact all_nil | (with_reducible refine all_cons ?_ ?_ <;> k_data) | (with_reducible refine all_app ?_ ?_ <;> k_data) | (intro _ _; k_data) | with_reducible exact List.mem_cons_self | with_reducible assumption | (with_reducible refine List.mem_cons_of_mem _ ?_; k_data) | (with_reducible refine List.mem_append_left _ ?_; k_data) | (with_reducible refine List.mem_append_right _ ?_; k_data))

section
variable (w : World) (g : Heap) (L : Addr) (outer : List Env) (frs : List (Addr × Obj)) (s : Shared) (a : SA) (cH : Addr) (oc : Obj) (t3 t4 : Tok) (ax : Addr) (v1 : SV) (su : Nat → List Nat) (held : Nat) (σ0 : PS) (RR O : Addr)
inductive RJ1 (i : Nat) (m : Str → Option Value) (l : List (Addr × Obj)) : Prop
  | mk (v : SV) (ns : List Nd) (hns : ns.map (·.k) = [4, 3, 2, 1, 0].take i) (hd : v.oD.IsDictOf (intKind PG w) (ndK ns)) (e : l = (cH, oc) :: (sort0 w a v (.int 0 t3) (.int 0 t4) ++ ndL ns)) (nod : (l.map (·.1)).Nodup) (ms : m (Str.ofString "sorter") = some (.ref a.S)) (mst : m (Str.ofString "steps") = some (.ref ax)) : RJ1 i m l
inductive RM1 (s' : Shared) : Prop
  | mk (a' : SA) (v' : SV) (m : Str → Option Value) (y : Stt g L outer frs s m ((cH, oc) :: sortL w a' v' .none (.int 0 t3) (.int 0 t4)) s') (wf : SWf w a' v') (su0 : ∀ k < 5, v'.su k = []) (np0 : ∀ k < 5, ∃ t, v'.np k = .int 0 t) (nd0 : ∀ k < 5, ∃ t, v'.nd k = .int (Int.ofNat k) t)
    (hcH : cH ∉ (sortL w a' v' .none (.int 0 t3) (.int 0 t4)).map (·.1)) (ms : m (Str.ofString "sorter") = some (.ref a'.S)) (mst : m (Str.ofString "steps") = some (.ref ax)) : RM1 s'
inductive RJ3 (i : Nat) (m : Str → Option Value) (l : List (Addr × Obj)) : Prop
  | mk (v' : SV) (p : Int) (tp : Tok) (f : Int) (tf : Tok) (rs : List Value) (er : Nat) (os : List Value) (eo : Nat) (sm : Same v1 v') (hn : RelN v' (rndN su held σ0 i).1) (hrs : IntsAre rs ((rndN su held σ0 i).1.rd.map Int.ofNat)) (hos : IntsAre os ((rndN su held σ0 i).2.map Int.ofNat))
    (e : l = (O, listOf (List.toArray os) eo) :: (cH, oc) :: (sortL w a v' (.ref RR) (.int p tp) (.int f tf) ++ [(RR, listOf (List.toArray rs) er)])) (ms : m (Str.ofString "sorter") = some (.ref a.S)) (mo : m (Str.ofString "out") = some (.ref O)) : RJ3 i m l
end
theorem down_next {i : Nat} (hi : i < 5) : (4 - i) ∉ ([4, 3, 2, 1, 0] : List Nat).take i ∧ ([4, 3, 2, 1, 0] : List Nat).take (i + 1) = ([4, 3, 2, 1, 0] : List Nat).take i ++ [4 - i] ∧ (4 : Int) + (i : Int) * (-1) = Int.ofNat (4 - i) := by
  match i, hi with
  | 0, _ => decide
  | 1, _ => decide
  | 2, _ => decide
  | 3, _ => decide
  | 4, _ => decide
theorem law_run_spec (w : World) (ax : Addr) (sts : List Step) (hs : ∀ p ∈ sts, p.1 < 5 ∧ p.2.1 < 5 ∧ p.2.2 ≤ 3) (hl : sts.length ≤ 30) (held : Nat) (th : Tok) (hh5 : held < 5) (rk : Nat → Nat) (hrk : ∀ p ∈ sts, rk p.1 < rk p.2.1) :
    Spec w 302 7 170 [.ref ax, .int (Int.ofNat held) th] [] (fun g => StepsAt g ax sts) (fun r pst => ∃ D ys e ns, r = .ref D ∧ pst = [(D, listOf (List.toArray ys) e)] ∧ IntsAre ys ns ∧ ns.Perm ((runOut sts held).map Int.ofNat) ∧ ns.Pairwise (· ≤ ·)) := by
  intro g outer frs s R G hfz ok st hsz N off hR
  obtain ⟨mean, mg, mb, T⟩ := G.T
  have X := G.X
  obtain ⟨svs, hsl, hsa⟩ := hfz
  have hszl : (2000 : Nat) ≤ sizeLine := by rw [sizeLine_eq]; decide
  refine enterC (binds := [(Str.ofString "steps", .ref ax), (Str.ofString "held", .int (Int.ofNat held) th)]) X T.nolimit st hsz N (by k_is) (by k_is) (show 302 < recursionLimit by decide) (BindsTo.of_eq rfl) ?_ (by decide) ?_ rfl rfl rfl
  · intro n x hx
    simp only [List.mem_cons, List.not_mem_nil, or_false] at hx
    rcases hx with rfl | rfl
    · exact .inl rfl
    · exact .inr ⟨rfl, rfl⟩
  intro L h₁ tk cells hL F N' hcells hfresh
  obtain ⟨oc, rfl, hoc⟩ := CellsAre.one hcells
  have hoc' : oc.data = .cell (some (.int (Int.ofNat held) th)) := hoc
  clear hoc hcells
  rw [frame_as (m := bindL _ _ _) [(Str.ofString "steps", .ref ax)] (by simp only [List.forall_mem_cons]; exact ⟨rfl, fun _ h => by cases h⟩)] at F
  generalize hc : L + 1 = cH at N' hfresh
  simp only [List.cons_append, List.nil_append] at N'
  have offc : OwnOff frs [cH] := fun p hp b hb => by
    rw [List.mem_singleton.mp hb]
    intro e
    have := hfresh _ (.head _)
    rw [show (cH, oc).1 = p.1 from e.symm, (N p (by simpa using hp)).1] at this
    cases this
  clear hfresh
  refine exec_then fun Q1 hQ1 => ?_
  k_steps
  rename Fr _ _ _ _ => F1
  rename News _ _ _ _ => N1
  refine make_use (d := 303) (u := 10) (C := 144) (fI := 80) (others := [(cH, oc)]) (frs := frs) (post := fun x dx pst => ∃ (a : SA) (v : SV) (t3 t4 : Tok), a.S = x ∧ a.dS = dx ∧ pst = [(x, instObj 144 dx), (dx, sDict w a v .none (.int 0 t3) (.int 0 t4)), (a.D, v.oD)] ∧ v.oD.IsDictOf (intKind PG w) [] ∧ (a.D == sysModules) = false ∧ @Ne Nat a.D x ∧ @Ne Nat a.D dx ∧ @Ne Nat x dx) (fz := fun _ => True) (by k_is) (by k_is) (by k_is)
    (fun x dx hne => ?_) G F1 N1 rfl rfl ok offc (fun _ _ _ => trivial) ?_
  · intro g outer frs s R G fz ok st hsz N off hR
    refine initS_spec w x dx hne g outer frs s R G fz ok st hsz N off fun v h' tk frs' pst hp => hR v h' tk frs' pst ?_
    obtain ⟨rfl, a, v, t3, t4, e1, e2, e3, e4, e5, e6, e7⟩ := hp
    exact ⟨rfl, a, v, t3, t4, e1, e2, e3, e4, e5, e6, e7, hne⟩
  rintro x dx h4 tk4 frs4 _ ⟨a, v, t3, t4, rfl, rfl, rfl, hdi, lo, e6, e7, e8⟩ sl4 ok4 F4 N4 off4 off5
  clear F1 N1
  simp only [List.cons_append, List.nil_append] at N4
  k_steps
  refine hQ1 _ _ ?_
  clear hQ1 Q1
  dsimp only
  rename Fr _ _ _ _ => F5
  rename News _ _ _ _ => N5
  refine execs_mid (RM1 w g L outer frs s cH oc t3 t4 ax) (wpAny_For ?_) ?_
  · k_steps
    rename Fr _ _ _ _ => F6
    rename News _ _ _ _ => N6
    rename IsRange _ _ _ _ _ _ _ _ => hr
    have offS : OwnOff frs4 (((cH, oc) :: (sort0 w a v (.int 0 t3) (.int 0 t4) ++ ndL [])).map (·.1)) := fun p hp b hb => by
      simp only [ndL, List.flatMap_nil, List.append_nil, List.map_cons, List.map_nil, List.mem_cons] at hb
      rcases hb with rfl | hb
      · exact off5 p hp _ (.head _)
      · exact off4 p (List.mem_append_right _ hp) b (by simpa using hb)
    have y6 := fun tk => Stt.of (s₀ := s) (tk := tk) (l := (cH, oc) :: (sort0 w a v (.int 0 t3) (.int 0 t4) ++ ndL [])) sl4 ok4 F6 (fun p hp => N6 p (by
      simp only [ndL, List.flatMap_nil, List.append_nil] at hp
      revert p hp
      k_data)) offS
    have nod0 : (((cH, oc) :: (sort0 w a v (.int 0 t3) (.int 0 t4) ++ ndL [])).map (·.1)).Nodup := by
      have c1 := off4 (cH, oc) (.head _) a.S (by simp)
      have c2 := off4 (cH, oc) (.head _) a.dS (by simp)
      have c3 := off4 (cH, oc) (.head _) a.D (by simp)
      simp only [ndL, List.flatMap_nil, List.append_nil, List.map_cons, List.map_nil, List.nodup_cons, List.mem_cons, List.not_mem_nil, or_false, not_or, not_false_eq_true, List.nodup_nil, and_true]
      exact ⟨⟨c1, c2, c3⟩, ⟨e8, Ne.symm e6⟩, Ne.symm e7⟩
    refine Stt.forS (P := fun i v => ∃ t, v = .int (4 + i * (-1)) t) (n := 5) (Src.rangeC rfl hr (by decide) (by decide)) (RJ1 w a cH oc t3 t4 ax)
      (y6 _) ⟨v, [], rfl, hdi, rfl, nod0, rfl, rfl⟩ (fun b hb => by cases hb) ?_ ?_
    · rintro I oI i val m₁ l₁ s₁ hi ⟨tv, rfl⟩ hJ9 - hl₁ y
      refine turn_veil fun QT ET hQT hET => hide fun GG hGG => ?_
      obtain ⟨v1, ns, hns, hdn, rfl, nod, ms, mst⟩ := hJ9
      refine hGG ?_
      clear hGG GG
      obtain ⟨dn1, dn2, dn3⟩ := down_next hi
      rw [dn3]
      refine wpAny_assign_Name (y.stX (fun s₂ _ y₂ => ?_) rfl rfl)
      obtain ⟨h7, tk7, frs7, rfl, sl7, ok7, F7, N7, off7⟩ := y₂
      rw [frame_as (m := fun z => if z = Str.ofString "name" then some (Value.int (Int.ofNat (4 - i)) tv) else m₁ z) [(Str.ofString "sorter", .ref a.S), (Str.ofString "steps", .ref ax), (Str.ofString "name", .int (Int.ofNat (4 - i)) tv)]
        (by simp only [List.forall_mem_cons]; exact ⟨(if_neg (by decide)).trans ms, (if_neg (by decide)).trans mst, (by first | exact if_pos rfl | exact if_pos trivial), fun _ h => by cases h⟩)] at F7
      simp only [List.cons_append, List.nil_append, List.append_assoc] at N7
      refine exec_then fun Q1 hQ1 => ?_
      k_steps
      rename Fr _ _ _ _ => F8
      rename News _ _ _ _ => N8
      have nod2 := nod
      rw [List.map_cons, List.nodup_cons, List.map_append, List.nodup_append] at nod2
      have hkk : Int.ofNat (4 - i) ∉ (ndK ns).map (·.1) := fun hm => by
        have : (ndK ns).map (·.1) = (ns.map (·.k)).map Int.ofNat := by simp [ndK]
        rw [this, hns] at hm
        obtain ⟨k', hk', e⟩ := List.mem_map.mp hm
        exact dn1 (Int.ofNat.inj e ▸ hk')
      have hlen : (ndK ns).length ≤ 100 := by
        have h1 := congrArg List.length hns
        rw [List.length_map] at h1
        have h2 : (([4, 3, 2, 1, 0] : List Nat).take i).length ≤ 5 := Nat.le_trans (List.length_take_le' _ _) (by decide)
        rw [List.length_map]; omega
      refine Spec.use (addNew_spec w a v1 (.int 0 t3) (.int 0 t4) e8 (Ne.symm e6) (Ne.symm e7) lo (ndK ns) hdn hlen (Int.ofNat (4 - i)) tv hkk) (others := (I, oI) :: (cH, oc) :: ndL ns) (frs := frs7) G F8 N8 rfl rfl ok7 ?_ ?_ ?_ (fun _ _ _ _ => trivial) ?_
      · k_data
      · refine own_both (own_cons (off_all fun q hq => hl₁ q (.tail _ (List.mem_append_left _ hq))) (own_cons (fun b hb e => nod2.1 (e ▸ List.mem_append_left _ hb)) fun p hp b hb e => nod2.2.2.2 b hb p.1 (List.mem_map_of_mem hp) e.symm)) (own_of (by k_data) off7)
      · exact own_of (by k_data) off7
      intro vv h9 tk9 frs9 pst hp9 sl9 ok9 F9 N9 off9 off10 _
      obtain ⟨I2, dI2, U2, t2, oD2, rfl, rfl, hd2, nd2⟩ := hp9
      clear F8 N8
      refine hQ1 _ _ ?_
      clear hQ1
      dsimp only
      have offN : ∀ z ∈ I :: cH :: (ndL ns).map (·.1), z ≠ I2 ∧ z ≠ dI2 ∧ z ≠ U2 := fun z hz => by
        obtain ⟨p, hp, rfl⟩ : ∃ p ∈ ((I, oI) :: (cH, oc) :: ndL ns) ++ frs9, p.1 = z := by
          obtain ⟨p, hp, e⟩ := List.mem_map.mp (show z ∈ ((I, oI) :: (cH, oc) :: ndL ns).map (·.1) from hz)
          exact ⟨p, List.mem_append_left _ hp, e⟩
        exact ⟨off9 p hp _ (by simp), off9 p hp _ (by simp), off9 p hp _ (by simp)⟩
      have newA : ((cH, oc) :: (sort0 w a { v1 with oD := oD2 } (.int 0 t3) (.int 0 t4) ++ ndL (ns ++ [({ k := 4 - i, I := I2, dI := dI2, U := U2, tn := t2, td := tv } : Nd)]))).map (·.1) = ((cH, oc) :: (sort0 w a v1 (.int 0 t3) (.int 0 t4) ++ ndL ns)).map (·.1) ++ [I2, dI2, U2] := by simp [ndL_snoc]
      have oldNe : ∀ z ∈ ((cH, oc) :: (sort0 w a v1 (.int 0 t3) (.int 0 t4) ++ ndL ns)).map (·.1), z ≠ I2 ∧ z ≠ dI2 ∧ z ≠ U2 := fun z hz => by
        simp only [List.map_cons, List.map_append, List.map_nil, List.cons_append, List.nil_append, List.mem_cons] at hz
        rw [List.nodup_cons, List.nodup_cons, List.nodup_cons] at nd2
        simp only [List.mem_cons, List.not_mem_nil, or_false, not_or] at nd2
        rcases hz with rfl | rfl | rfl | rfl | h
        · exact offN _ (.tail _ (.head _))
        · exact ⟨Ne.symm nd2.1.2.2.1, Ne.symm nd2.2.1.2.1, Ne.symm nd2.2.2.1.1⟩
        · exact ⟨Ne.symm nd2.1.2.2.2.1, Ne.symm nd2.2.1.2.2.1, Ne.symm nd2.2.2.1.2.1⟩
        · exact ⟨Ne.symm nd2.1.2.2.2.2, Ne.symm nd2.2.1.2.2.2, Ne.symm nd2.2.2.1.2.2⟩
        · exact offN _ (.tail _ (.tail _ h))
      refine wpAny_execs_nil (hQT .next _ ⟨_, (cH, oc) :: (sort0 w a { v1 with oD := oD2 } (.int 0 t3) (.int 0 t4) ++ ndL (ns ++ [({ k := 4 - i, I := I2, dI := dI2, U := U2, tn := t2, td := tv } : Nd)])), ⟨{ v1 with oD := oD2 }, ns ++ [({ k := 4 - i, I := I2, dI := dI2, U := U2, tn := t2, td := tv } : Nd)], ?_, ?_, rfl, ?_, ?_, ?_⟩, ?_, ⟨h9, tk9, frs9, rfl, sl7.trans sl9, ok9, F9, ?_, ?_⟩⟩)
      · rw [List.map_append, hns, dn2]; rfl
      · unfold ndK; rw [List.map_append]; exact hd2
      · rw [newA]
        refine List.nodup_append.mpr ⟨nod, by rw [List.nodup_cons, List.nodup_cons, List.nodup_cons, List.nodup_cons, List.nodup_cons] at nd2; simp only [List.mem_cons, List.not_mem_nil, or_false, not_or] at nd2; simp only [List.nodup_cons, List.mem_cons, List.not_mem_nil, or_false, not_or, not_false_eq_true, List.nodup_nil, and_true]; exact ⟨⟨nd2.1.1, nd2.1.2.1⟩, nd2.2.1.1⟩, fun z hz y hy e => ?_⟩
        subst e
        have hz' := oldNe z hz
        simp only [List.mem_cons, List.not_mem_nil, or_false] at hy
        rcases hy with h | h | h
        · exact hz'.1 h
        · exact hz'.2.1 h
        · exact hz'.2.2 h
      · rfl
      · rfl
      · intro p hp e
        have hp1 : p.1 ∈ ((cH, oc) :: (sort0 w a { v1 with oD := oD2 } (.int 0 t3) (.int 0 t4) ++ ndL (ns ++ [({ k := 4 - i, I := I2, dI := dI2, U := U2, tn := t2, td := tv } : Nd)]))).map (·.1) := List.mem_map_of_mem hp
        rw [newA, e] at hp1
        rcases List.mem_append.mp hp1 with h | h
        · obtain ⟨q, hq, e2⟩ := List.mem_map.mp h
          exact hl₁ q hq e2
        · have := offN I (.head _)
          simp only [List.mem_cons, List.not_mem_nil, or_false] at h
          rcases h with h | h | h
          · exact this.1 h
          · exact this.2.1 h
          · exact this.2.2 h
      · intro p hp
        refine N9 p ?_
        rw [ndL_snoc] at hp
        revert p hp
        k_data
      · intro p hp b hb
        rw [List.map_cons, newA] at hb
        rcases List.mem_cons.mp hb with rfl | hb
        · exact off10 p hp _ (.head _)
        · rcases List.mem_append.mp hb with h | h
          · simp only [List.map_cons, List.map_append, List.map_nil, List.cons_append, List.nil_append, List.mem_cons] at h
            rcases h with rfl | h | h | h | h
            · exact off10 p hp _ (.tail _ (.head _))
            · exact off9 p (List.mem_append_right _ hp) b (by simp [h])
            · exact off9 p (List.mem_append_right _ hp) b (by simp [h])
            · exact off9 p (List.mem_append_right _ hp) b (by simp [h])
            · exact off10 p hp b (.tail _ (.tail _ h))
          · exact off9 p (List.mem_append_right _ hp) b (by
              simp only [List.mem_cons, List.not_mem_nil, or_false] at h
              rcases h with h | h | h <;> simp [h])
    · rintro m' l' s' ⟨v1, ns, hns, hdn, rfl, nod, ms, mst⟩ y
      refine ⟨rfl, ?_⟩
      obtain ⟨a', v', b1, b2, b3, b4, b5, b6, b7⟩ := five (pv := .int 0 t3) (fv := .int 0 t4) (c := (cH, oc)) hns hdn lo nod
      refine ⟨a', v', m', y.sub fun p hp => ?_, b2, b3, b4, b5, b7, by rw [b1]; exact ms, mst⟩
      rcases List.mem_cons.mp hp with rfl | hp
      · exact .head _
      · exact .tail _ (b6 p hp)
  clear hdi e6 e7 e8 off4 off5 sl4 ok4 F5 N5 lo
  clear a v
  rintro s₁ ⟨a, v, m, y, wf, su0, np0, nd0, hcH, ms, mst⟩
  have AR0 : AR v v (addAll []) := ⟨rfl, rfl, np0, fun k hk => by rw [su0 k hk]; exact .nil⟩
  refine execs_mid (fun s' => ∃ (v' : SV) (m : Str → Option Value), Stt g L outer frs s m ((cH, oc) :: sortL w a v' .none (.int 0 t3) (.int 0 t4)) s' ∧ AR v v' (addAll sts.reverse) ∧ m (Str.ofString "sorter") = some (.ref a.S)) (wpAny_For ?_) ?_
  · obtain ⟨h7, tk7, frs7, rfl, sl7, ok7, F7, N7, off7⟩ := id y
    rw [frame_as (m := m) [(Str.ofString "sorter", .ref a.S), (Str.ofString "steps", .ref ax)]
        (by simp only [List.forall_mem_cons]; exact ⟨ms, mst, fun _ h => by cases h⟩)] at F7
    k_steps
    refine krv_lit (its := List.toArray svs) (s := ⟨h7, s.gens, s.drawn, _, s.os⟩) F7 N7 (hsl.at fun o e => F7.keep _ o e) (IsPart.int _ _) rfl ?_ (by with_unfolding_all rfl) (by intro _; with_unfolding_all rfl) ?_
    · intro D h8 F8 N8 l8
      have hDl : ∀ p ∈ (cH, oc) :: sortL w a v .none (.int 0 t3) (.int 0 t4), p.1 ≠ D := fun p hp => Nat.ne_of_lt (l8 p (List.mem_append_left _ hp))
      have y8 := fun tk => Stt.of (s₀ := s) (tk := tk) (l := (D, listOf (List.toArray svs.reverse) 0) :: (cH, oc) :: sortL w a v .none (.int 0 t3) (.int 0 t4)) sl7 ok7 F8 N8 (fun p hp b hb => by
        rcases List.mem_cons.mp hb with rfl | hb
        · exact Nat.ne_of_lt (l8 p (List.mem_append_right _ hp))
        · exact off7 p hp b hb)
      have hDS : D ∉ (sortL w a v .none (.int 0 t3) (.int 0 t4)).map (·.1) := fun hm => by
        obtain ⟨q, hq, e⟩ := List.mem_map.mp hm
        exact hDl q (.tail _ hq) e
      have hrevl : svs.reverse.length = sts.length := by rw [List.length_reverse]; exact hsa.length
      have hrev := hsa.reverse
      refine Stt.forS (n := (List.toArray svs.reverse).size) (Src.list (its := List.toArray svs.reverse) rfl (show _ from ⟨_, ((y8 0).news _ (.head _)).1, rfl, _, rfl⟩)) (fun i m l => ∃ v', AR v v' (addAll (sts.reverse.take i)) ∧ l = (D, listOf (List.toArray svs.reverse) 0) :: (cH, oc) :: sortL w a v' .none (.int 0 t3) (.int 0 t4) ∧ m (Str.ofString "sorter") = some (.ref a.S))
        (y8 _) ⟨v, AR0, rfl, rfl⟩ ?_ ?_ ?_
      · intro b hb
        rw [List.mem_singleton.mp hb]
        refine ⟨listOf (List.toArray svs.reverse) 0, ?_⟩
        rintro i m₁ l₁ s₁ ⟨v', _, rfl, _⟩ Y
        exact (Y.news _ (.head _)).1
      · rintro I oI i val m₁ l₁ s₁ hi hP ⟨v', ar, rfl, ms'⟩ - hl₁ Y
        refine turn_veil fun QT ET hQT hET => ?_
        have hi' : i < sts.length := by rw [List.size_toArray, hrevl] at hi; exact hi
        obtain ⟨⟨e, l, n⟩, hst⟩ : ∃ st, sts.reverse[i]? = some st := ⟨sts.reverse[i]'(by rw [List.length_reverse]; exact hi'), by simp [hi']⟩
        obtain ⟨T', te, tl, tn, hvT, hT⟩ := hrev.get hst
        have hval : val = .ref T' := by
          have hP' : svs.reverse[i]? = some val := by simpa using hP
          rw [hvT] at hP'; exact (Option.some.inj hP').symm
        subst hval
        have hmem : (e, l, n) ∈ sts := List.mem_reverse.mp (List.mem_of_getElem? hst)
        have he5 : e < 5 := (hs _ hmem).1
        have hl5 : l < 5 := (hs _ hmem).2.1
        have hn3 : n ≤ 3 := (hs _ hmem).2.2
        refine Y.put3 rfl (hT.at fun o q => Y.fr.keep _ o q) (fun s₂ Y₂ => ?_) rfl rfl rfl rfl
        obtain ⟨h9, tk9, frs9, rfl, sl9, ok9, F9, N9, off9⟩ := Y₂
        rw [frame_as (m := fun u => if u = Str.ofString "times" then _ else _) [(Str.ofString "sorter", .ref a.S), (Str.ofString "early", .int (Int.ofNat e) te), (Str.ofString "late", .int (Int.ofNat l) tl), (Str.ofString "times", .int (Int.ofNat n) tn)]
          (by simp only [List.forall_mem_cons]; exact ⟨(if_neg (by decide)).trans ((if_neg (by decide)).trans ((if_neg (by decide)).trans ms')), (if_neg (by decide)).trans ((if_neg (by decide)).trans (if_pos trivial)), (if_neg (by decide)).trans (if_pos trivial), (if_pos trivial), fun _ h => by cases h⟩)] at F9
        simp only [List.cons_append] at N9
        refine exec_then fun Q1 hQ1 => ?_
        refine wpAny_Expr_any (MethodCallS ?_ (by with_unfolding_all rfl)) rfl rfl
        k_steps
        refine callWith_MS2 (K := hd.heap_1 w.params) (g := 94) (self := .ref a.S) (by k_is) ?_ rfl rfl
        k_steps
        rename Fr _ _ _ _ => F10
        rename News _ _ _ _ => N10
        refine KMa.mul (vs := [.int (Int.ofNat e) te]) F10 N10 ⟨_, (N10 _ (.head _)).1, rfl, _, rfl⟩ (by show -(2 ^ 63 : Int) ≤ (n : Int); omega) (by show (n : Int) < 2 ^ 63; omega) (by simp; omega) (show (List.replicate n [Value.int (Int.ofNat e) te]).flatten = List.replicate n (Value.int (Int.ofNat e) te) from rep_flat _ _) fun D2 h11 F11 N11 l11 => ?_
        k_steps
        refine star_seq F11 N11 (.head _) rfl rfl (.inl rfl) rfl (by simp; omega) fun h12 F12 N12 => ?_
        clear F11 N11
        k_steps
        rename Fr _ _ _ _ => F13
        rename News _ _ _ _ => N13
        unfold Stop
        rw [List.append_nil]
        refine call_meth N13 (.tail _ (.tail _ (.head _))) ?_
        obtain ⟨tnp, hnp⟩ := ar.np l hl5
        have hps : IntsAre (List.replicate n (Value.int (Int.ofNat e) te)) ((List.replicate n e).map Int.ofNat) := by
          rw [List.map_replicate]; exact ints_rep rfl n
        have hsl' : ∀ k < 5, (v'.su k).length ≤ 1000 := fun k hk => by
          have h1 := (ar.su k hk).length
          rw [List.length_map] at h1
          have h2 := addAll_len (sts.reverse.take i) (fun p hp => (hs p (List.mem_reverse.mp (List.mem_of_mem_take hp))).2.2) k
          have h3 : (sts.reverse.take i).length ≤ 30 := Nat.le_trans (List.length_take_le' _ _) (by rw [List.length_reverse]; exact hl)
          omega
        refine (add_spec w a v' (ar.wf wf) (.int 0 t3) (.int 0 t4) l hl5 tl _ tnp hnp (List.replicate n (Value.int (Int.ofNat e) te)) (List.replicate n e) hps (fun x hx => by rw [(List.mem_replicate.mp hx).2]; exact he5) (by rw [List.length_replicate]; omega) hsl').useC
          (others := (I, oI) :: (D, listOf (List.toArray svs.reverse) 0) :: [(cH, oc)]) (frs := frs9) G F13 N13 rfl rfl ok9 ?_ ?_ ?_ (fun _ _ _ _ => trivial) ?_
        · k_data
        · exact own_both (own_cons (off_all fun q hq => hl₁ q (.tail _ (.tail _ hq))) (own_cons (off_mem hDS) (own_cons (off_mem hcH) own_nil))) (own_of (by k_data) off9)
        · exact own_of (by k_data) off9
        intro vv h14 tk14 frs14 pst hp9 sl14 ok14 F14 N14 off14 off15 _
        obtain ⟨v2, rfl, rfl, hadd⟩ := hp9
        clear F13 N13
        refine hQ1 _ _ ?_
        clear hQ1
        dsimp only
        refine wpAny_execs_nil (hQT .next _ ⟨_, (D, listOf (List.toArray svs.reverse) 0) :: (cH, oc) :: sortL w a v2 .none (.int 0 t3) (.int 0 t4), ⟨v2, ?_, rfl, ?_⟩, ?_, ⟨h14, tk14, frs14, rfl, sl9.trans sl14, ok14, F14, ?_, ?_⟩⟩)
        · rw [List.take_add_one, hst]
          show AR v v2 (addAll (List.take i sts.reverse ++ [(e, l, n)]))
          rw [addAll_snoc]
          exact ar.add hl5 hadd
        · rfl
        · intro p hp
          rcases List.mem_cons.mp hp with rfl | hp
          · exact hl₁ (D, listOf (List.toArray svs.reverse) 0) (.head _)
          · rcases List.mem_cons.mp hp with rfl | hp
            · exact hl₁ (cH, oc) (.tail _ (.head _))
            · exact sort_ne (fun q hq => hl₁ q (.tail _ (.tail _ hq))) p hp
        · intro p hp
          refine N14 p ?_
          revert p hp
          k_data
        · exact own_of (by k_data) (own_app off15 (own_right off14))
      · rintro m' l' s' ⟨v', ar, rfl, ms'⟩ Y
        refine ⟨rfl, v', m', Y.sub fun p hp => .tail _ hp, ?_, ms'⟩
        rw [List.size_toArray, hrevl, ← List.length_reverse (as := sts), List.take_length] at ar
        exact ar
    · rw [List.size_toArray, hsa.length]; omega
  clear AR0
  rintro s₂ ⟨v1, m1, y1, ar, ms1⟩
  clear y
  have hsu1 : ∀ k < 5, IntsAre (v1.su k) (((addAll sts.reverse).2 k).map Int.ofNat) ∧ (∀ j ∈ (addAll sts.reverse).2 k, j < 5 ∧ rk k < rk j) ∧ ((addAll sts.reverse).2 k).length ≤ 100 := fun k hk => by
    refine ⟨ar.su k hk, fun j hj => ?_, ?_⟩
    · obtain ⟨n, _, h⟩ := (addAll_ed sts k j).mp hj
      exact ⟨(hs _ h).2.1, hrk _ h⟩
    · have := addAll_len sts.reverse (fun p hp => (hs p (List.mem_reverse.mp hp)).2.2) k
      rw [List.length_reverse] at this
      omega
  have hnd1 : ∀ k < 5, ∃ t, v1.nd k = .int (Int.ofNat k) t := fun k hk => by rw [ar.nd]; exact nd0 k hk
  have wf1 := ar.wf wf
  refine execs_mid (fun s' => ∃ (R : Addr) (rs : List Value), Stt g L outer frs s m1 ((cH, oc) :: (sortL w a v1 (.ref R) (.int 0 t3) (.int 0 t4) ++ [(R, lsO rs)])) s' ∧ IntsAre rs ((ready0 (addAll sts.reverse).1).map Int.ofNat) ∧ R ∉ (sortL w a v1 .none .none .none).map (·.1) ∧ @Ne Nat cH R) ?_ ?_
  · obtain ⟨h7, tk7, frs7, rfl, sl7, ok7, F7, N7, off7⟩ := y1
    rw [frame_as (m := m1) [(Str.ofString "sorter", .ref a.S)] (by simp only [List.forall_mem_cons]; exact ⟨ms1, fun _ h => by cases h⟩)] at F7 ⊢
    simp only [List.cons_append] at N7
    k_steps
    rename Fr _ _ _ _ => F8
    rename News _ _ _ _ => N8
    refine Spec.use (prepare_spec w a v1 wf1 (.int 0 t3) (.int 0 t4) _ ar.np hnd1 _ rk hsu1) (others := [(cH, oc)]) (frs := frs7) G F8 N8 rfl rfl ok7 ?_ ?_ ?_ (fun _ _ _ _ => trivial) ?_
    · k_data
    · exact own_cons (off_mem hcH) (own_of (by k_data) off7)
    · exact own_of (by k_data) off7
    intro vv h9 tk9 frs9 pst hp9 sl9 ok9 F9 N9 off9 off10 _
    obtain ⟨RR, rs, rfl, rfl, hrs, hRR⟩ := hp9
    refine ⟨rfl, RR, rs, ⟨h9, tk9, frs9, rfl, sl7.trans sl9, ok9, F9, fun p hp => N9 p ?_, fun p hp b hb => ?_⟩, hrs, hRR, ?_⟩
    · revert p hp
      k_data
    · exact own_app off10 (own_right off9) p hp b hb
    · exact off9 (cH, oc) (.head _) RR (by simp)
  rintro s₃ ⟨RR, rs0, y2, hrs0, hRR, hcR⟩
  refine execs_mid (fun s' => ∃ (O : Addr), Stt g L outer frs s (fun z => if z = Str.ofString "out" then some (.ref O) else m1 z) ((O, listOf #[] 0) :: (cH, oc) :: (sortL w a v1 (.ref RR) (.int 0 t3) (.int 0 t4) ++ [(RR, lsO rs0)])) s' ∧ ∀ p ∈ (cH, oc) :: (sortL w a v1 (.ref RR) (.int 0 t3) (.int 0 t4) ++ [(RR, lsO rs0)]), p.1 ≠ O) ?_ ?_
  · refine wpAny_Assign_Name (wpAny_List_spliced (args_nil ⟨by simp, ?_⟩))
    obtain ⟨yO, neO⟩ := y2.push (listOf #[] 0)
    exact yO.stX (fun s' _ Y => ⟨rfl, _, Y, neO⟩) rfl rfl
  rintro s₄ ⟨O, y3, hO⟩
  clear y2 y1
  have hstart := run_start sts held fun p hp => (hs p hp).1
  have hsu5 : ∀ k < 5, ∀ j ∈ (addAll sts.reverse).2 k, j < 5 := fun k hk j hj => ((hsu1 k hk).2.1 j hj).1
  have hallR := fun r => rinv_all hstart hsu5 r
  have hnumR : ∀ r, (rndN (addAll sts.reverse).2 held ⟨(addAll sts.reverse).1, ready0 (addAll sts.reverse).1⟩ r).2.length + (rndN (addAll sts.reverse).2 held ⟨(addAll sts.reverse).1, ready0 (addAll sts.reverse).1⟩ r).1.rd.length ≤ 5 := fun r => by
    obtain ⟨dn, h⟩ := hallR r
    have := nodup_le 5 _ h.m.nd h.m.lt
    rwa [List.length_append] at this
  generalize hP0 : (⟨(addAll sts.reverse).1, ready0 (addAll sts.reverse).1⟩ : PS) = σ0 at hallR hnumR hstart
  generalize hsu : (addAll sts.reverse).2 = su at hallR hnumR hstart hsu1 hsu5
  refine execs_mid (fun s' => ∃ (m : Str → Option Value) (os : List Value) (eo : Nat), Stt g L outer frs s m [(O, listOf (List.toArray os) eo)] s' ∧ IntsAre os ((runOut sts held).map Int.ofNat) ∧ m (Str.ofString "out") = some (.ref O)) (wpAny_For ?_) ?_
  · obtain ⟨h7, tk7, frs7, rfl, sl7, ok7, F7, N7, off7⟩ := id y3
    rw [frame_as (m := fun z => if z = Str.ofString "out" then some (.ref O) else m1 z) [(Str.ofString "sorter", .ref a.S), (Str.ofString "out", .ref O)]
        (by simp only [List.forall_mem_cons]; exact ⟨(if_neg (by decide)).trans ms1, (if_pos trivial), fun _ h => by cases h⟩)] at F7
    k_steps
    rename Fr _ _ _ _ => F6
    rename News _ _ _ _ => N6
    rename IsRange _ _ _ _ _ _ _ _ => hr
    have y6 := fun tk => Stt.of (s₀ := s) (tk := tk) (l := (O, listOf #[] 0) :: (cH, oc) :: (sortL w a v1 (.ref RR) (.int 0 t3) (.int 0 t4) ++ [(RR, lsO rs0)])) sl7 ok7 F6 N6 off7
    have hOS : ∀ {v' : SV} {rd pv fv : Value} {o : Obj}, O ∉ (sortL w a v' rd pv fv ++ [(RR, o)]).map (·.1) := fun {v' rd pv fv o} hm => by
      have hm' : O ∈ (sortL w a v1 (.ref RR) (.int 0 t3) (.int 0 t4) ++ [(RR, lsO rs0)]).map (·.1) := hm
      obtain ⟨q, hq, e⟩ := List.mem_map.mp hm'
      exact hO q (.tail _ hq) e
    have hOc : @Ne Nat cH O := hO (cH, oc) (.head _)
    refine Stt.forS (n := 5) (Src.range rfl hr (by decide) (by decide)) (RJ3 w a cH oc v1 su held σ0 RR O)
      (y6 _) ⟨v1, 0, t3, 0, t4, rs0, _, [], 0, Same.refl v1, ?_, ?_, .nil, rfl, rfl, rfl⟩ (fun b hb => by cases hb) ?_ ?_
    · subst hP0; exact ar.np
    · subst hP0; exact hrs0
    · rintro I oI i val m₁ l₁ s₁ hi ⟨tv, rfl⟩ hJ9 - hl₁ Y
      refine turn_veil fun QT ET hQT hET => hide fun GG hGG => ?_
      obtain ⟨v', p, tp, f, tf, rs, er, os, eo, sm, hn', hrs', hos', rfl, ms', mo'⟩ := hJ9
      refine hGG ?_
      clear hGG GG
      obtain ⟨dn, hinv⟩ := hallR i
      have hnum := hnumR i
      have hcHR : ∀ b ∈ (sortL w a v' (.ref RR) (.int p tp) (.int f tf) ++ [(RR, listOf (List.toArray rs) er)]).map (·.1), @Ne Nat cH b := fun b hb => by
        rw [List.map_append] at hb
        rcases List.mem_append.mp hb with hb | hb
        · exact fun (e : cH = b) => hcH (by rw [e]; exact hb)
        · rw [List.mem_singleton.mp hb]; exact hcR
      have hRI : @Ne Nat RR I := hl₁ (RR, listOf (List.toArray rs) er) (.tail _ (.tail _ (List.mem_append_right _ (.head _))))
      obtain ⟨hok, -⟩ := hinv.next hsu5
      have hrnd : rndN su held σ0 (i + 1) = rndP su held (rndN su held σ0 i) := rfl
      generalize rndN su held σ0 i = P at hn' hrs' hos' hinv hnum hok hrnd
      have hrd5 : ∀ e ∈ P.1.rd, e < 5 := fun e he => hinv.m.lt e (List.mem_append_right _ he)
      refine wpAny_assign_Name (Y.stX (fun s₂ _ Y₂ => ?_) rfl rfl)
      obtain ⟨h8, tk8, frs8, rfl, sl8, ok8, F8, N8, off8⟩ := Y₂
      rw [frame_as (m := fun z => if z = Str.ofString "turn" then _ else m₁ z) [(Str.ofString "sorter", .ref a.S), (Str.ofString "out", .ref O)]
        (by simp only [List.forall_mem_cons]; exact ⟨(if_neg (by decide)).trans ms', (if_neg (by decide)).trans mo', fun _ h => by cases h⟩)] at F8
      simp only [List.cons_append, List.append_assoc, List.nil_append] at N8
      refine exec_then fun Q1 hQ1 => ?_
      k_steps
      rename Fr _ _ _ _ => F9
      rename News _ _ _ _ => N9
      refine Spec.use (get_ready_spec w a v' (sm.wf wf1) RR p tp (.int f tf) rs er P.1.rd hrs' hrd5 (by omega) hRR) (others := (I, oI) :: (O, listOf (List.toArray os) eo) :: [(cH, oc)]) (frs := frs8) G F9 N9 rfl rfl ok8 ?_ ?_ ?_ (fun _ _ _ _ => trivial) ?_
      · k_data
      · exact own_both (own_cons (off_all fun z hz => hl₁ z (.tail _ (.tail _ hz))) (own_cons (off_mem hOS) (own_cons hcHR own_nil))) (own_of (by k_data) off8)
      · exact own_of (by k_data) off8
      intro vv h10 tk10 frs10 pst hp9 sl10 ok10 F10 N10 off10 off11 _
      obtain ⟨v2, TT, tp2, er2, rfl, hTS, hTR, rfl, hv2⟩ := hp9
      clear F9 N9
      k_steps
      refine hQ1 _ _ ?_
      clear hQ1 Q1
      dsimp only
      rename Fr _ _ _ _ => F12
      rename News _ _ _ _ => N12
      have offA : OwnOff frs10 (((I, oI) :: (O, listOf (List.toArray os) eo) :: (TT, { cls := .type "tuple", data := .seq (List.toArray rs) }) :: (cH, oc) :: (sortL w a v2 (.ref RR) (.int (p + P.1.rd.length) tp2) (.int f tf) ++ [(RR, listOf #[] er2)])).map (·.1)) := own_of (by k_data) (own_app off11 (own_right off10))
      have y12 := fun tk => Stt.of (s₀ := s) (tk := tk) (l := (I, oI) :: (O, listOf (List.toArray os) eo) :: (TT, { cls := .type "tuple", data := .seq (List.toArray rs) }) :: (cH, oc) :: (sortL w a v2 (.ref RR) (.int (p + P.1.rd.length) tp2) (.int f tf) ++ [(RR, listOf #[] er2)])) (sl8.trans sl10) ok10 F12 (fun q hq => N12 q (by
        revert q hq
        k_data)) offA
      have hIO : @Ne Nat I O := Ne.symm (hl₁ (O, listOf (List.toArray os) eo) (.head _))
      have hTO : @Ne Nat O TT := off10 (O, listOf (List.toArray os) eo) (.tail _ (.head _)) TT (.head _)
      have hrl := hrs'.length
      have hol := hos'.length
      rw [List.length_map] at hrl hol
      refine wpAny_execs_cons (wpAny_Expr_any (MethodCall_ ((y12 _).ldX rfl ?_)) rfl rfl)
      refine (y12 _).lmethod (.tail _ (.head _)) PySem.F.slot_list_extend PySem.F.type_list_extend (callWith_method1 (args_cons ((y12 _).ldX rfl (args_nil ?_))))
      refine (y12 _).extT ((y12 0).news _ (.tail _ (.tail _ (.head _)))).1 (.tail hIO (.head fun q hq => ?_)) (by rw [List.size_toArray, List.size_toArray]; omega) fun s₃ y13 => ?_
      · rcases List.mem_cons.mp hq with rfl | hq
        · exact Ne.symm hTO
        · rcases List.mem_cons.mp hq with rfl | hq
          · exact hOc
          · exact fun (e : q.1 = O) => hOS (by rw [← e]; exact List.mem_map_of_mem hq)
      rw [List.append_toArray] at y13
      clear y12 F12 N12 offA off10 off11
      obtain ⟨h14, tk14, frs14, rfl, sl14, ok14, F14, N14, off14⟩ := y13
      simp only [List.cons_append, List.append_assoc, List.nil_append] at N14
      refine wpAny_execs_cons (wpAny_Expr_any (MethodCallS ?_ (by with_unfolding_all rfl)) rfl rfl)
      k_steps
      rename Fr _ _ _ _ => F15
      rename News _ _ _ _ => N15
      rename_i q15 h15 l15
      have lt15 : ∀ p ∈ frs14, p.1 < q15 := fun p hp => allLt_mem l15.2.2.2.2.2.2.2 p (List.mem_append_right _ (.tail _ hp))
      have y15 := fun tk => Stt.of (s₀ := s) (tk := tk) (l := (q15, methodObj (.ref 127) (.ref a.S)) :: (I, oI) :: (O, listOf (List.toArray (os ++ rs)) (extE os.toArray rs.toArray eo)) :: (TT, { cls := .type "tuple", data := .seq (List.toArray rs) }) :: (cH, oc) :: (sortL w a v2 (.ref RR) (.int (p + P.1.rd.length) tp2) (.int f tf) ++ [(RR, listOf #[] er2)])) sl14 ok14 F15
        (by simp only [List.cons_append, List.append_assoc, List.nil_append]; exact N15) (fun z hz b hb => by
          rcases List.mem_cons.mp hb with rfl | hb
          · exact Nat.ne_of_lt (lt15 z hz)
          · exact off14 z hz b hb)
      refine callWith_MS (K := hd.heap_1 w.params) (g := 127) (self := .ref a.S) (by k_is) (compE (J := fun ys => IntsAre ys ((P.1.rd.filter fun k => k != held).map Int.ofNat)) (cl := [(Str.ofString "held", cH)]) (by rw [← hc]; with_unfolding_all rfl) (by decide) rfl (by decide) (fun _ => rfl) ((y15 _).ldX rfl ?_)) rfl
      refine ⟨_, _, _, Src.tuple (its := List.toArray rs) rfl ⟨_, ((y15 0).news _ (.tail _ (.tail _ (.tail _ (.head _))))).1, rfl, _, rfl⟩, ?_, ?_⟩
      · intro I' fp St C D' s₅ c
        have hszr : (List.toArray rs).size = P.1.rd.length := by rw [List.size_toArray, hrl]
        refine codeAny_mono (c.emits (fun i ys => IntsAre ys (((P.1.rd.take i).filter fun k => k != held).map Int.ofNat)) .nil (fun i ys h => ?_) (turn_one ..) ?_) fun r s' hr => ?_
        · have h1 := h.length
          rw [List.length_map] at h1
          have h2 : ((P.1.rd.take i).filter fun k => k != held).length ≤ 5 := Nat.le_trans (List.length_filter_le _ _) (Nat.le_trans (List.length_take_le' _ _) (by omega))
          omega
        · intro j x ys s' mc E' hj hP hJ kb _ ns
          have hj' : j < P.1.rd.length := by rw [← hszr]; exact hj
          obtain ⟨tx, htx⟩ := hrs'.get j (Int.ofNat P.1.rd[j]) (by simp [hj'])
          have hx : x = .int (Int.ofNat P.1.rd[j]) tx := by
            have hP' : rs[j]? = some x := by simpa using hP
            rw [htx] at hP'; exact (Option.some.inj hP').symm
          subst hx
          refine cput rfl rfl ns fun s₆ k₆ n₆ => ⟨k₆, ⟨_, n₆⟩, ?_⟩
          have kb6 := kb.fresh k₆ fun z hz => by rw [List.mem_singleton.mp hz]; exact c.fC
          have gc : s₆.heap.get? cH = some oc := kb6.at0 ((y15 0).news (cH, oc) (.tail _ (.tail _ (.tail _ (.tail _ (.head _)))))).1
          refine wpAny_tests_one (wpAny_isTrue_Compare1 (cld rfl rfl n₆ (if_pos rfl) (cldC rfl (by first | rfl | with_unfolding_all rfl) (show List.lookup (Str.ofString "held") [(Str.ofString "held", cH)] = some cH from rfl) gc hoc' (ne_int (wpAny_truthy_bool ?_)))))
          refine ⟨KB.refl _ _, ?_⟩
          rw [List.take_add_one, List.getElem?_eq_getElem hj', List.filter_append]
          by_cases hh : P.1.rd[j] = held
          · rw [if_neg (by simp [hh])]
            simpa [hh] using hJ
          · have hh' : ¬ ((P.1.rd[j] : Int) = (held : Int)) := fun q => hh (by exact_mod_cast q)
            rw [if_pos (by simpa using hh')]
            refine cld rfl rfl n₆ (if_pos rfl) ⟨KB.refl _ _, ?_⟩
            have : (Option.toList (some P.1.rd[j])).filter (fun k => k != held) = [P.1.rd[j]] := by simp [hh]
            rw [this, List.map_append]
            exact hJ.append (.cons _ _ .nil)
        · obtain ⟨rfl, ys, a1, a2, a3, a4⟩ := hr
          rw [hszr, List.take_length] at a4
          exact ⟨rfl, ys, a1, a2, a3, a4⟩
      · intro D' ys s' hJ kb fD dD
        obtain ⟨y16, ne16⟩ := (y15 _).add fD kb dD
        clear y15 F15 N15
        have hksl : (P.1.rd.filter fun k => k != held).length ≤ 5 := Nat.le_trans (List.length_filter_le _ _) (by omega)
        have hyl : ys.length ≤ 5 := by
          have h1 := hJ.length
          rw [List.length_map] at h1
          omega
        obtain ⟨h16, tk16, frs16, rfl, sl16, ok16, F16, N16, off16⟩ := y16
        refine star_seq F16 N16 (.head _) rfl rfl (.inl rfl) rfl (by rw [List.size_toArray]; omega) fun h17 F17 N17 => ?_
        clear F16 N16
        refine ⟨methP N17 (.tail _ (.head _)) (X.keeps F17.keep), call_meth N17 (.tail _ (.head _)) ?_⟩
        have hn2 : RelN v2 ⟨fun j => if j ∈ P.1.rd then -1 else P.1.np j, []⟩ := fun k hk => by
          by_cases h : k ∈ P.1.rd
          · obtain ⟨t, ht⟩ := hv2.2.2.2.2.2.2.2.2.2 k h
            exact ⟨t, by rw [ht]; show _ = Value.int (if k ∈ P.1.rd then -1 else P.1.np k) t; rw [if_pos h]⟩
          · obtain ⟨t, ht⟩ := hn' k hk
            exact ⟨t, by rw [hv2.2.2.2.2.2.2.2.2.1 k h, ht]; show _ = Value.int (if k ∈ P.1.rd then -1 else P.1.np k) t; rw [if_neg h]⟩
        have sm2 : Same v' v2 := ⟨hv2.1, hv2.2.1, hv2.2.2.1, hv2.2.2.2.1, hv2.2.2.2.2.1, hv2.2.2.2.2.2.1, hv2.2.2.2.2.2.2.1, hv2.2.2.2.2.2.2.2.1⟩
        have sm12 : Same v1 v2 := sm.trans sm2
        have hsu2 : ∀ k < 5, IntsAre (v2.su k) ((su k).map Int.ofNat) ∧ (∀ j ∈ su k, j < 5) ∧ (su k).length ≤ 100 := fun k hk => by
          rw [sm12.su]; exact ⟨(hsu1 k hk).1, fun j hj => ((hsu1 k hk).2.1 j hj).1, (hsu1 k hk).2.2⟩
        refine (done_spec w a v2 (sm12.wf wf1) RR (.int (p + P.1.rd.length) tp2) f tf [] er2 ⟨fun j => if j ∈ P.1.rd then -1 else P.1.np j, []⟩ su ys (P.1.rd.filter fun k => k != held) hn2 .nil hsu2 hJ (fun e he => hrd5 e (List.mem_filter.mp he).1) hksl (by simp) hok hRR).useC
          (others := (I, oI) :: (O, listOf (List.toArray (os ++ rs)) (extE os.toArray rs.toArray eo)) :: [(cH, oc)]) (frs := frs16) G F17 N17 rfl rfl ok16 ?_ ?_ ?_ (fun _ _ _ _ => trivial) ?_
        · k_data
        · exact own_both (own_cons (off_all (L := sortL w a v' (.ref RR) (.int p tp) (.int f tf) ++ [(RR, listOf (List.toArray rs) er)]) fun z hz => hl₁ z (.tail _ (.tail _ hz))) (own_cons (off_mem (L := sortL w a v' (.ref RR) (.int p tp) (.int f tf) ++ [(RR, listOf (List.toArray rs) er)]) hOS) (own_cons hcHR own_nil))) (own_of (by k_data) off16)
        · exact own_of (by k_data) off16
        intro vv h18 tk18 frs18 pst hp9 sl18 ok18 F18 N18 off18 off19 _
        obtain ⟨v3, tf3, rs3, er3, rfl, rfl, sm3, hn3, hrs3⟩ := hp9
        refine wpAny_execs_nil (hQT .next _ ⟨_, (O, listOf (List.toArray (os ++ rs)) (extE os.toArray rs.toArray eo)) :: (cH, oc) :: (sortL w a v3 (.ref RR) (.int (p + P.1.rd.length) tp2) (.int (f + (P.1.rd.filter fun k => k != held).length) tf3) ++ [(RR, listOf (List.toArray rs3) er3)]), ⟨v3, _, _, _, _, rs3, er3, os ++ rs, _, sm12.trans sm3, ?_, ?_, ?_, rfl, ?_, ?_⟩, ?_, ⟨h18, tk18, frs18, rfl, sl16.trans sl18, ok18, F18, ?_, ?_⟩⟩)
        · rw [hrnd]; exact hn3
        · rw [hrnd]; exact hrs3
        · rw [hrnd]
          show IntsAre (os ++ rs) ((P.2 ++ P.1.rd).map Int.ofNat)
          rw [List.map_append]; exact hos'.append hrs'
        · rfl
        · rfl
        · intro z hz
          rcases List.mem_cons.mp hz with rfl | hz
          · exact Ne.symm hIO
          · rcases List.mem_cons.mp hz with rfl | hz
            · exact hl₁ (cH, oc) (.tail _ (.head _))
            · rcases List.mem_append.mp hz with hz | hz
              · exact sort_ne (fun q hq => hl₁ q (.tail _ (.tail _ (List.mem_append_left _ hq)))) z hz
              · rw [List.mem_singleton.mp hz]; exact hRI
        · intro z hz
          refine N18 z ?_
          revert z hz
          k_data
        · exact own_of (by k_data) (own_app off19 (own_right off18))
    · rintro m' l' s' ⟨v', p, tp, f, tf, rs, er, os, eo, _, _, _, hos, rfl, _, mo⟩ Y
      refine ⟨rfl, m', os, eo, Y.sub fun p hp => ?_, ?_, mo⟩
      · rw [List.mem_singleton.mp hp]; exact .head _
      · subst hP0 hsu; exact hos
  · rintro s₅ ⟨m, os, eo, y, hos, mo⟩
    have hol : os.length ≤ 5 := by
      have h1 := hos.length
      rw [List.length_map] at h1
      have h2 := hnumR 5
      subst hP0 hsu
      have h3 : (runOut sts held).length ≤ 5 := Nat.le_trans (Nat.le_add_right _ _) h2
      omega
    obtain ⟨h7, tk7, frs7, rfl, sl7, ok7, F7, N7, off7⟩ := y
    rw [frame_as (m := m) [(Str.ofString "out", .ref O)] (by simp only [List.forall_mem_cons]; exact ⟨mo, fun _ h => by cases h⟩)] at F7
    simp only [List.cons_append, List.nil_append] at N7
    k_steps
    rename Fr _ _ _ _ => F8
    rename News _ _ _ _ => N8
    refine sorted_N F8 N8 ⟨_, (N8 _ (.head _)).1, rfl, _, rfl⟩ hos (by omega) fun h9 vs9 ns9 e9 F9 N9 hI9 hp9 hw9 => ?_
    have hD9 : ∀ p ∈ frs7, p.1 ≠ Array.size (Heap.objs _) + 1 := fun p hp => Nat.ne_of_lt (Nat.lt_succ_of_lt (Heap.lt_size (N8 p (.tail _ hp)).1))
    revert N9 hD9
    generalize Array.size (Heap.objs _) + 1 = D9
    intro N9 hD9
    k_steps
    rename Fr _ _ _ _ => F10
    rename News _ _ _ _ => N10
    refine hR _ _ _ frs7 [(D9, listOf (List.toArray vs9) e9)] ⟨D9, vs9, e9, ns9, rfl, rfl, hI9, hp9, hw9⟩ sl7 F10.keep (fun p hp => (fun P => ⟨(N10 p P).1, (N10 p P).2.2⟩) ?_) (fun p hp b hb => ?_)
    · simp only [List.cons_append, List.nil_append, List.mem_cons] at hp ⊢
      rcases hp with h | h
      · exact .inl h
      · exact .inr (.inr h)
    · rw [List.mem_singleton.mp hb]; exact hD9 p hp
end Mine
end PartRun

section PartNu0
theorem Mine.anewNu0 : True := by
  w_top off
  trivial
open PySem PySem.W PySem.Calls PyProof.Rows
set_option Elab.async false
set_option maxRecDepth 100000
set_option maxHeartbeats 4000000
set_option linter.all false
namespace Mine
theorem fdN (x : Nat) (k : Nat) : (Int.ofNat x).fdiv (k : Int) = Int.ofNat (x / k) := by
  first
  | exact (Int.ofNat_fdiv x k).symm
  | exact (Int.natCast_fdiv x k).symm
  | (rw [Int.fdiv_eq_ediv_of_nonneg _ (by omega)]; rfl)
theorem fmN (x : Nat) (k : Nat) : (Int.ofNat x).fmod (k : Int) = Int.ofNat (x % k) := by
  first
  | exact (Int.ofNat_fmod x k).symm
  | (rw [Int.fmod_eq_emod_of_nonneg _ (by omega)]; rfl)
theorem sub_call {f : Expr} {args : List Expr} {kw : List Keyword} {p : Pos} {l : Addr} {k : Int} {u : Tok} : subscripted (.Call f args kw p) false (.ref l) (.int k u) = operate [.ref l, .int k u] (getItem (.ref l) (.int k u)) := rfl
theorem sub_name {x : Str} {p : Pos} {l : Addr} {k : Int} {u : Tok} : subscripted (.Name x p) false (.ref l) (.int k u) = operate [.ref l, .int k u] (getItem (.ref l) (.int k u)) := rfl
theorem sub_sub {f x : Expr} {p : Pos} {l : Addr} {k : Int} {u : Tok} : subscripted (.Subscript f x p) false (.ref l) (.int k u) = operate [.ref l, .int k u] (getItem (.ref l) (.int k u)) := rfl
theorem sub_const {c : Int} {kk : Nat} {p : Pos} {l : Addr} {k : Int} {u : Tok} : subscripted (.Constant (.int c) kk p) false (.ref l) (.int k u) = operate [.ref l, .int k u] (getItem (.ref l) (.int k u)) := rfl
theorem star_name {x : Str} {p : Pos} {rest : List Expr} {env : Env} : starEach (.Name x p :: rest) env = (false, eval (.Name x p) env) :: starEach rest env := rfl
theorem star_binop {a b : Expr} {op : Operator} {p : Pos} {rest : List Expr} {env : Env} : starEach (.BinOp a op b p :: rest) env = (false, eval (.BinOp a op b p) env) :: starEach rest env := rfl
theorem star_sub {a b : Expr} {p : Pos} {rest : List Expr} {env : Env} : starEach (.Subscript a b p :: rest) env = (false, eval (.Subscript a b p) env) :: starEach rest env := rfl
theorem star_comp {a : Expr} {gs : List Comprehension} {sc : Scope} {p : Pos} {rest : List Expr} {env : Env} : starEach (.ListComp a gs sc p :: rest) env = (false, eval (.ListComp a gs sc p) env) :: starEach rest env := rfl
theorem star_neg {a : Expr} {op : UnaryOp} {p : Pos} {rest : List Expr} {env : Env} : starEach (.UnaryOp op a p :: rest) env = (false, eval (.UnaryOp op a p) env) :: starEach rest env := rfl
theorem plain_nil {pos : Pos} {env : Env} : (backTo pos (starEach [] env)).any (·.1) = false := rfl
theorem plain_name {x : Str} {p pos : Pos} {env : Env} : (backTo pos (starEach [.Name x p] env)).any (·.1) = false := rfl
section
variable {w : World} {A : Around} {E : Value → Shared → Prop} {s : Shared} {env : Env}
theorem sumK {l : Addr} {vs : List Value} {ns : List Int} {Q : Value → Shared → Prop} (hh : A.handled = none) (hl : s.heap.IsList l (List.toArray vs)) (hi : IntsAre vs ns) (h : ∀ s' t, KB [] s s' → Q (.int ns.sum t) s') :
    wpAny (model PG w) A (call (.builtin "sum") [.ref l]) Q E s := by
  obtain ⟨xs, e⟩ := hi.allInts.items
  have e2 : ns = PySem.numsOf (List.toArray vs).toList := by rw [show (List.toArray vs).toList = vs from rfl]; exact hi.numsOf.symm
  rw [e] at hl e2
  refine sum_intListG hh hl fun h' tk t' hk => ?_
  have := h { s with heap := h', toks := tk } t' (KB.of fun b o _ q => hk b o q)
  rw [e2, nums_intItems] at this
  rw [preSum_eq, List.take_of_length_le (by simp)]
  exact this
theorem sub_slice {value : Expr} {lower upper step : Option Expr} {p pos : Pos} {Q : Value → Shared → Prop}
    (h : wpAny (model PG w) A (eval value env) (fun o s₁ => wpAny (model PG w) A (evalPart lower env) (fun vl s₂ => wpAny (model PG w) A (evalPart upper env) (fun vu s₃ => wpAny (model PG w) A (evalPart step env) (fun vk s₄ =>
      ∃ l items lo hi st, o = .ref l ∧ s₄.heap.IsList l items ∧ IsPart vl lo ∧ IsPart vu hi ∧ IsPart vk st ∧ st ≠ some 0 ∧ items.size ≤ sizeLine ∧
        ∀ s' D, KB [] s₄ s' → s₄.heap.get? D = none → s'.heap.get? D = some (listOf (slicePick items lo hi st) 0) → Q (.ref D) s') E s₃) E s₂) E s₁) E s)
    (hs : ∀ l i, ∃ ops, subscripted (.Slice lower upper step p) false (.ref l) (.ref i) = operate ops (getItem (.ref l) (.ref i))) :
    wpAny (model PG w) A (eval (.Subscript value (.Slice lower upper step p) pos) env) Q E s := by
  refine Subscript_ (wpAny_mono h (fun o s₁ h₁ => wpAny_Slice (wpAny_mono h₁ (fun vl s₂ h₂ => wpAny_mono h₂ (fun vu s₃ h₃ => wpAny_mono h₃ (fun vk s₄ h₄ => ?_) fun _ _ x => x) fun _ _ x => x) fun _ _ x => x)) fun _ _ x => x)
  obtain ⟨l, items, lo, hi, st, rfl, hl, p1, p2, p3, h0, hsz, hQ⟩ := h₄
  obtain ⟨ops, hs⟩ := hs l s₄.heap.objs.size
  have hl' : (s₄.heap.push { cls := .type "slice", data := .fields #[vl, vu, vk] }).IsList l items := hl.push _
  refine tail_any (Heap.IsList.typeIs (s := { s₄ with heap := s₄.heap.push { cls := .type "slice", data := .fields #[vl, vu, vk] } }) hl') slot_list_getitem.lookup (wpAny_getItem_list_slice hl' (Heap.IsSliceOf.new ..) p1 p2 p3 h0 ?_ hsz) hs
  refine hQ _ _ (KB.of (tk := s₄.toks) fun b o _ e => Heap.get?_push_of_some _ (Heap.get?_push_of_some _ e)) ?_ (Heap.get?_push_size _ rfl)
  cases q : s₄.heap.get? (s₄.heap.push { cls := .type "slice", data := .fields #[vl, vu, vk] }).objs.size with
  | none => rfl
  | some o => exact absurd (Heap.lt_size q) (by show ¬ (s₄.heap.push _).objs.size < _; rw [push_size]; omega)
theorem eval_then {e : Expr} {Q : Value → Shared → Prop} (h : ∀ Q' : Value → Shared → Prop, (∀ v s₁, Q v s₁ → Q' v s₁) → wpAny (model PG w) A (eval e env) Q' E s) : wpAny (model PG w) A (eval e env) Q E s := h Q fun _ _ x => x
theorem part_none {Q : Value → Shared → Prop} (h : Q .none s) : wpAny (model PG w) A (evalPart none env) Q E s := wpAny_pure h
theorem part_some {e : Expr} {Q : Value → Shared → Prop} (h : wpAny (model PG w) A (eval e env) Q E s) : wpAny (model PG w) A (evalPart (some e) env) Q E s := h
theorem minK {a b : Nat} {t u : Tok} {Q : Value → Shared → Prop} (hh : A.handled = none) (h : ∀ s' t', KB [] s s' → Q (.int (Int.ofNat (min a b)) t') s') :
    wpAny (model PG w) A (call (.builtin "min") [.int (Int.ofNat a) t, .int (Int.ofNat b) u]) Q E s := by
  refine min_two_ints hh fun h' tk hk => ?_
  have k : KB [] s { s with heap := h', toks := tk } := KB.of fun b o _ e => hk b o e
  by_cases hc : b < a
  · rw [if_pos (show Int.ofNat b < Int.ofNat a from Int.ofNat_lt.mpr hc)]
    have := h _ u k
    rwa [show min a b = b by omega] at this
  · rw [if_neg (show ¬ Int.ofNat b < Int.ofNat a from fun q => hc (Int.ofNat_lt.mp q))]
    have := h _ t k
    rwa [show min a b = a by omega] at this
theorem maxK {a b : Nat} {t u : Tok} {Q : Value → Shared → Prop} (hh : A.handled = none) (h : ∀ s' t', KB [] s s' → Q (.int (Int.ofNat (max a b)) t') s') :
    wpAny (model PG w) A (call (.builtin "max") [.int (Int.ofNat a) t, .int (Int.ofNat b) u]) Q E s := by
  refine max_two_ints hh fun h' tk hk => ?_
  have k : KB [] s { s with heap := h', toks := tk } := KB.of fun b o _ e => hk b o e
  by_cases hc : b > a
  · rw [if_pos (show Int.ofNat b > Int.ofNat a from Int.ofNat_lt.mpr hc)]
    have := h _ u k
    rwa [show max a b = b by omega] at this
  · rw [if_neg (show ¬ Int.ofNat b > Int.ofNat a from fun q => hc (Int.ofNat_lt.mp q))]
    have := h _ t k
    rwa [show max a b = a by omega] at this
theorem cldB {scope : Scope} {cl : List (Str × Addr)} {C : Addr} {x : Str} {px : Pos} {v : Value} {mg mb : Str → Option Value} {Q : Value → Shared → Prop} (hg : s.heap.Ns (compEnvC scope cl C env).globals mg) (hmg : mg x = none) (hb : s.heap.Ns (compEnvC scope cl C env).builtins mb) (hv : mb x = some v) (h : Q v s)
    (hk : (compEnvC scope cl C env).scope.kind = .function) (hx : (compEnvC scope cl C env).kindOf x = some .globalImplicit) (hd : (x == ("__debug__" : Str)) = false := by decide) :
    wpAny (model PG w) A (eval (.Name x px) (compEnvC scope cl C env)) Q E s := Name_function_global hk hx (loadGlobal_builtin hg hmg hb hv h) hd
end
end Mine
end PartNu0

section PartNu
theorem Mine.anewNu : True := by
  w_top off
  trivial
open PySem PySem.W PySem.Calls PyProof.Rows
set_option Elab.async false
set_option maxRecDepth 100000
set_option maxHeartbeats 4000000
set_option linter.all false
namespace Mine
theorem fillNu : hd.heap_1 = hd.heap_1 ∧ PySem.Challenge.rw_mg0051_01 = PySem.Challenge.rw_mg0051_01 := by
  k_fill
  exact ⟨rfl, rfl⟩
local macro_rules | `(tactic| walk_at "eval ListComp") => `(tactic| refine stopAt ?_)

theorem law_numbers_spec (w : World) (ax : Addr) (ns : List Int) (hns : ns.length ≤ 1000) :
    Spec w 302 7 153 [.ref ax] [] (fun g => ListAt g ax ns) (fun r pst => ∃ (D : Addr) (ys : List Value) (nums : List Nat), r = .ref D ∧ pst = [(D, lsO ys)] ∧ IntsAre ys (nums.map Int.ofNat) ∧ nums.length = 6 ∧ ∀ x ∈ nums, x < 375) := by
  intro g outer frs s R G hfz ok st hsz N off hR
  obtain ⟨mean, mg, mb, T⟩ := G.T
  have X := G.X
  obtain ⟨svs, hsl, hsi⟩ := hfz
  have hszl : (2000 : Nat) ≤ sizeLine := by rw [sizeLine_eq]; decide
  have TT := topRead_of T
  refine enterC (binds := [(Str.ofString "script", .ref ax)]) X T.nolimit st hsz N (by k_is) (by k_is) (show 302 < recursionLimit by decide) (BindsTo.of_eq rfl) ?_ (by decide) ?_ rfl rfl rfl
  · intro n x hx
    simp only [List.mem_cons, List.not_mem_nil, or_false] at hx
    subst hx
    exact .inr ⟨rfl, rfl⟩
  intro L h₁ tk cells hL F N' hcells hfresh
  obtain ⟨oc1, oc2, rfl, hoc1, hoc2⟩ := CellsAre.two hcells
  have hoc1' : oc1.data = .cell none := hoc1
  have hoc2' : oc2.data = .cell (some (.ref ax)) := hoc2
  clear hoc1 hoc2 hcells
  rw [frame_as (m := bindL _ _ _) [] (by intro p hp; cases hp)] at F
  have offc : OwnOff frs [L + 1, L + 1 + 1] := fun p hp b hb => by
    intro e
    simp only [List.mem_cons, List.not_mem_nil, or_false] at hb
    have h0 := (N p (by simpa using hp)).1
    rcases hb with rfl | rfl
    · have := hfresh _ (.tail _ (.head _))
      rw [show (L + 1, oc2).1 = p.1 from e.symm, h0] at this
      cases this
    · have := hfresh _ (.head _)
      rw [show (L + 1 + 1, oc1).1 = p.1 from e.symm, h0] at this
      cases this
  clear hfresh
  simp only [List.cons_append, List.nil_append] at N'
  refine exec_then fun Q1 hQ1 => ?_
  have ofr1 : ∀ p ∈ frs, p.1 ≠ L + 1 + 1 := fun p hp => offc p hp _ (by simp)
  have ofr2 : ∀ p ∈ frs, p.1 ≠ L + 1 := fun p hp => offc p hp _ (by simp)
  k_steps
  refine hQ1 _ _ ?_
  clear hQ1 Q1
  dsimp only
  k_steps
  rename Fr _ _ _ _ => F2
  rename News _ _ _ _ => N2
  rename_i tk1 l2 _ l2lt h2 o2 d2
  have off2 : OwnOff frs [l2, L + 1 + 1, L + 1] := fun p hp b hb => by
    simp only [List.mem_cons, List.not_mem_nil, or_false] at hb
    rcases hb with rfl | rfl | rfl
    · exact Nat.ne_of_lt (allLt_mem l2lt.2.2 p hp)
    · exact ofr1 p hp
    · exact ofr2 p hp
  have hstI : IntsAre [Value.int 105 tk1, Value.int 157 (tk1 + 1), Value.int 60 (tk1 + 1 + 1), Value.int 14 (tk1 + 1 + 1 + 1), Value.int 21 (tk1 + 1 + 1 + 1 + 1), Value.int 28 (tk1 + 1 + 1 + 1 + 1 + 1)] [105, 157, 60, 14, 21, 28] := .cons _ _ (.cons _ _ (.cons _ _ (.cons _ _ (.cons _ _ (.cons _ _ .nil)))))
  refine compE (J := fun ys => ∃ nums : List Nat, IntsAre ys (nums.map Int.ofNat) ∧ nums.length = 6 ∧ ∀ x ∈ nums, x < 375) (cl := [(Str.ofString "start", L + 1 + 1), (Str.ofString "script", L + 1)]) (by with_unfolding_all rfl) (by decide) rfl (by decide) (fun _ => rfl) ?_
  refine eval_then fun Q3 hQ3 => ?_
  k_steps
  refine hQ3 _ _ ?_
  clear hQ3 Q3
  rename Fr _ _ _ _ => F3
  rename News _ _ _ _ => N3
  rename IsRange _ _ _ _ _ _ _ _ => hr
  have y3 := fun tk => Stt.of (s₀ := s) (tk := tk) (l := [(l2, listOf (List.toArray [Value.int 105 tk1, Value.int 157 (tk1 + 1), Value.int 60 (tk1 + 1 + 1), Value.int 14 (tk1 + 1 + 1 + 1), Value.int 21 (tk1 + 1 + 1 + 1 + 1), Value.int 28 (tk1 + 1 + 1 + 1 + 1 + 1)]) 0), (L + 1 + 1, o2), (L + 1, oc2)]) (SlotsOf.refl frs) ok F3 N3 off2
  refine ⟨6, _, _, Src.range (n := 6) rfl hr (by decide) (by decide), ?_, ?_⟩
  · intro I' fp St C D' s₅ c
    refine codeAny_mono (c.emits (fun i ys => ∃ nums : List Nat, IntsAre ys (nums.map Int.ofNat) ∧ nums.length = i ∧ i ≤ 6 ∧ ∀ x ∈ nums, x < 375) ⟨[], .nil, rfl, by decide, fun x hx => by cases hx⟩ (fun i ys h => ?_) (turn_one ..) ?_) fun r s' hr => ?_
    · obtain ⟨nums, b1, b2, b3, _⟩ := h
      have := b1.length
      rw [List.length_map] at this
      omega
    · rintro i x ys s' mc E' hi ⟨tx, rfl⟩ ⟨nums, b1, b2, b3, b4⟩ kb _ ns'
      refine cput rfl rfl ns' fun s₆ k₆ n₆ => ⟨k₆, ⟨_, n₆⟩, wpAny_tests_nil ⟨KB.refl _ _, ?_⟩⟩
      rw [if_pos rfl]
      have kb6 := kb.fresh k₆ fun z hz => by rw [List.mem_singleton.mp hz]; exact c.fC
      have y6 := (y3 _).kb kb6
      have g1 : ∀ s₇, KB [] s₆ s₇ → s₇.heap.get? (L + 1 + 1) = some o2 := fun s₇ k => k.at0 (y6.news (L + 1 + 1, o2) (.tail _ (.head _))).1
      have g2 : ∀ s₇, KB [] s₆ s₇ → s₇.heap.get? (L + 1) = some oc2 := fun s₇ k => k.at0 (y6.news (L + 1, oc2) (.tail _ (.tail _ (.head _)))).1
      obtain ⟨cv, hcv⟩ : ∃ cv, ([105, 157, 60, 14, 21, 28] : List Int)[i]? = some cv := ⟨([105, 157, 60, 14, 21, 28] : List Int)[i]'hi, by simp [hi]⟩
      obtain ⟨tc, htc⟩ := hstI.get i cv hcv
      refine wpAny_BinOp (wpAny_BinOp (Subscript_ (cldC rfl (by first | rfl | with_unfolding_all rfl) (show List.lookup (Str.ofString "start") [(Str.ofString "start", L + 1 + 1), (Str.ofString "script", L + 1)] = some (L + 1 + 1) from rfl) (g1 _ (KB.refl _ _)) d2 (cld rfl rfl n₆ (if_pos rfl) ?_))))
      refine item_in (v := .int cv tc) (items := List.toArray [Value.int 105 tk1, Value.int 157 (tk1 + 1), Value.int 60 (tk1 + 1 + 1), Value.int 14 (tk1 + 1 + 1 + 1), Value.int 21 (tk1 + 1 + 1 + 1 + 1), Value.int 28 (tk1 + 1 + 1 + 1 + 1 + 1)]) ⟨_, (y6.news _ (.head _)).1, rfl, _, rfl⟩ (by omega) (by omega) (by simpa using htc) ?_
      refine Call_ (cldB (TT.g.keeps y6.fr.keep) (T.free (Str.ofString "sum") (by decide +kernel) (by decide +kernel) (by decide +kernel) (by decide +kernel) (by decide +kernel)) (TT.b.keeps y6.fr.keep) ((TT.builtins _ (by decide +kernel)).trans Boot.«sum») ?_ rfl (by first | rfl | with_unfolding_all rfl))
      refine callWith_builtin1 (args_cons ?_)
      refine sub_slice (sub_slice (cldC rfl (by first | rfl | with_unfolding_all rfl) (show List.lookup (Str.ofString "script") [(Str.ofString "start", L + 1 + 1), (Str.ofString "script", L + 1)] = some (L + 1) from rfl) (g2 _ (KB.refl _ _)) hoc2' (part_none (part_some (wpAny_Constant_int (part_none ⟨ax, List.toArray svs, _, _, _, rfl, hsl.at fun o e => y6.fr.keep _ o e, .none, .int _ _, .none, by simp, ?_, ?_⟩))))) (fun l i => ⟨_, by with_unfolding_all rfl⟩)) (fun l i => ⟨_, by with_unfolding_all rfl⟩)
      · rw [List.size_toArray, hsi.length]; omega
      intro s₇ D₇ k₇ _ d₇
      have k67 : KB [] s₆ s₇ := (KB.of (tk := _) fun b o _ e => e : KB [] s₆ _).trans k₇
      refine part_some (cld rfl rfl (k67.ns (by simp) n₆) (if_pos rfl) (part_none (part_some (wpAny_Constant_int ⟨D₇, _, _, _, _, rfl, ⟨_, d₇, rfl, _, rfl⟩, .int _ _, .none, .int _ _, by simp, ?_, ?_⟩))))
      · refine Nat.le_trans (slicePick_size_le _ _ _ _) ?_
        rw [List.size_toArray, hsi.length]; omega
      intro s₈ D₈ k₈ _ d₈
      refine args_nil ?_
      have hp1 := hsi.pick none (some 63) none
      have hp2 := hp1.pick (some (0 + (i : Int))) none (some 6)
      rw [Array.toArray_toList] at hp2
      refine sumK (vs := (slicePick (slicePick (List.toArray svs) none (some 63) none) (some (0 + (i : Int))) none (some 6)).toList) rfl ⟨_, d₈, rfl, _, by rw [Array.toArray_toList]⟩ hp2 fun s₉ t₉ k₉ => ?_
      refine add_int (wpAny_Constant_int (mod_int (by decide) ?_))
      generalize cv + (pickNums (pickNums ns none (some 63) none) (some (0 + (i : Int))) none (some 6)).sum = z
      have z0 : 0 ≤ z.fmod 375 := Int.fmod_nonneg_of_pos _ (by decide)
      have z1 : z.fmod 375 < 375 := Int.fmod_lt_of_pos _ (by decide)
      refine ⟨?_, nums ++ [(z.fmod 375).toNat], ?_, ?_, by omega, fun x hx => ?_⟩
      · have k68 : KB [] s₆ s₈ := k67.trans ((KB.of (tk := _) fun b o _ e => e : KB [] s₇ _).trans k₈)
        exact k68.trans (k₉.trans (KB.of fun b o _ e => e))
      · rw [List.map_append]
        refine b1.append ?_
        have : Int.ofNat (z.fmod 375).toNat = z.fmod 375 := Int.toNat_of_nonneg z0
        rw [List.map_cons, this]
        exact .cons _ _ .nil
      · rw [List.length_append, b2]; rfl
      · rcases List.mem_append.mp hx with hx | hx
        · exact b4 x hx
        · rw [List.mem_singleton.mp hx]; omega
    · obtain ⟨rfl, ys, a1, a2, a3, nums, b1, b2, b3, b4⟩ := hr
      exact ⟨rfl, ys, a1, a2, a3, nums, b1, b2, b4⟩
  · intro D' ys s' hJ kb fD dD
    obtain ⟨nums, b1, b2, b4⟩ := hJ
    obtain ⟨y4, ne4⟩ := (y3 _).add fD kb dD
    obtain ⟨h4, tk4, frs4, rfl, sl4, ok4, F4, N4, off4⟩ := y4
    exact hR _ _ _ frs4 [(D', lsO ys)] ⟨D', ys, nums, rfl, rfl, b1, b2, b4⟩ sl4 F4.keep (fun p hp => by
      rcases List.mem_cons.mp hp with rfl | hp
      · exact ⟨(N4 _ (.head _)).1, (N4 _ (.head _)).2.2⟩
      · exact ⟨(N4 p (List.mem_append_right _ hp)).1, (N4 p (List.mem_append_right _ hp)).2.2⟩) (fun p hp b hb => by rw [List.mem_singleton.mp hb]; exact off4 p hp D' (.head _))
end Mine
end PartNu

section PartSp
theorem Mine.anewSp : True := by
  w_top off
  trivial
open PySem PySem.W PySem.Calls PyProof.Rows
set_option Elab.async false
set_option maxRecDepth 100000
set_option maxHeartbeats 4000000
set_option linter.all false
namespace Mine
theorem fillSp : hd.heap_1 = hd.heap_1 ∧ PySem.Challenge.rw_mg0051_01 = PySem.Challenge.rw_mg0051_01 := by
  k_fill
  exact ⟨rfl, rfl⟩
local macro_rules | `(tactic| walk_at "subscriptTail") => `(tactic| refine stopAt ?_)
local macro_rules | `(tactic| walk_at "call builtin:list.append") => `(tactic| refine stopAt ?_)
local macro_rules | `(tactic| walk_at "pyIter ref") => `(tactic| refine stopAt ?_)

noncomputable def stepOf (rw' : Nat → Nat) (x : Nat) : List Step := if x % 5 ≠ x / 5 % 5 then [(rw' (min (x % 5) (x / 5 % 5)), rw' (max (x % 5) (x / 5 % 5)), 1 + x / 25 % 3)] else []
noncomputable def stepsP (rw' : Nat → Nat) (nums : List Nat) : List Step := nums.flatMap (stepOf rw')

theorem law_steps_spec (w : World) (an ar : Addr) (nums : List Nat) (rw' : Nat → Nat) (hn : nums.length ≤ 6) (h375 : ∀ x ∈ nums, x < 375) :
    Spec w 302 7 160 [.ref an, .ref ar] [] (fun g => ListAt g an (nums.map Int.ofNat) ∧ ListAt g ar (([0, 1, 2, 3, 4] : List Nat).map fun k => Int.ofNat (rw' k)))
      (fun r pst => ∃ (D : Addr) (vs : List Value) (e : Nat) (tl : List (Addr × Obj)), r = .ref D ∧ pst = (D, listOf (List.toArray vs) e) :: tl ∧ (∀ h : Heap, (∀ p ∈ tl, h.get? p.1 = some p.2) → StepsAre h vs (stepsP rw' nums)) ∧ (∀ p ∈ tl, p.1 ≠ D)) := by
  intro g outer frs s R G hfz ok st hsz N off hR
  obtain ⟨mean, mg, mb, T⟩ := G.T
  have X := G.X
  obtain ⟨⟨nvs, hnl, hni⟩, ⟨rvs, hrl, hri⟩⟩ := hfz
  have hszl : (2000 : Nat) ≤ sizeLine := by rw [sizeLine_eq]; decide
  have TT := topRead_of T
  refine enter X T.nolimit st hsz N (by k_is) (by k_is) (show 302 < recursionLimit by decide) (BindsTo.of_eq rfl) (locs rfl) ?_ rfl rfl rfl (by decide)
  intro L h₁ hL F N' hlt
  rw [frame_as (m := fun y => List.lookup y _) [(Str.ofString "numbers", .ref an), (Str.ofString "row", .ref ar)] (by simp only [List.forall_mem_cons]; exact ⟨rfl, rfl, fun _ h => by cases h⟩)] at F
  simp only [List.nil_append] at N'
  have y0 := fun tk => Stt.of (s₀ := s) (tk := tk) (l := []) (SlotsOf.refl frs) ok F N' off
  refine wpAny_execs_cons (wpAny_Assign_Name (wpAny_List_spliced (args_nil ⟨by simp, ?_⟩)))
  obtain ⟨y1, -⟩ := (y0 _).push (listOf #[] 0)
  revert y1
  dsimp only
  generalize Array.size (Heap.objs _) = D
  intro y1
  refine y1.st (fun s₂ y2 => ?_) rfl rfl
  refine execs_mid (fun s' => ∃ (m : Str → Option Value) (vs : List Value) (e : Nat) (tl : List (Addr × Obj)), Stt g L outer frs s m ((D, listOf (List.toArray vs) e) :: tl) s' ∧ (∀ h : Heap, (∀ p ∈ tl, h.get? p.1 = some p.2) → StepsAre h vs (stepsP rw' nums)) ∧ (∀ p ∈ tl, p.1 ≠ D) ∧ m (Str.ofString "steps") = some (.ref D)) (wpAny_For ?_) ?_
  · refine y2.ld rfl ?_ rfl rfl (by decide)
    have hnsz : (List.toArray nvs).size = nums.length := by rw [List.size_toArray, hni.length, List.length_map]
    refine Stt.forS (n := (List.toArray nvs).size) (Src.list (its := List.toArray nvs) rfl (hnl.at fun o e => y2.fr.keep _ o e)) (fun i m l => ∃ (vs : List Value) (e : Nat) (tl : List (Addr × Obj)), l = (D, listOf (List.toArray vs) e) :: tl ∧ (∀ h : Heap, (∀ p ∈ tl, h.get? p.1 = some p.2) → StepsAre h vs (stepsP rw' (nums.take i))) ∧ (∀ p ∈ tl, p.1 ≠ D) ∧ vs.length ≤ i ∧ m (Str.ofString "steps") = some (.ref D) ∧ m (Str.ofString "row") = some (.ref ar))
      y2 ⟨[], 0, [], rfl, fun h _ => .nil, fun p hp => (by cases hp), Nat.le_refl _, rfl, rfl⟩ ?_ ?_ ?_
    · intro b hb
      rw [List.mem_singleton.mp hb]
      obtain ⟨o, ho, _⟩ := hnl
      exact ⟨o, fun i m₁ l₁ s₁ _ Y => Y.fr.keep _ _ ho⟩
    · rintro I oI i val m₁ l₁ s₁ hi hP ⟨vs, e, tl, rfl, hst, htl, hvl, ms, mr⟩ - hl₁ Y
      refine turn_veil fun QT EQT hQT hEQT => ?_
      rw [hnsz] at hi
      obtain ⟨te, hte⟩ := hni.get i (Int.ofNat nums[i]) (by simp [hi])
      have hval : val = .int (Int.ofNat nums[i]) te := by
        have hP' : nvs[i]? = some val := by simpa using hP
        rw [hte] at hP'; exact (Option.some.inj hP').symm
      subst hval
      have hx375 := h375 _ (List.getElem_mem hi)
      generalize hx : nums[i] = x at hx375 Y
      refine wpAny_assign_Name (Y.st (fun s₂ Y₂ => ?_) rfl rfl)
      obtain ⟨h3, tk3, frs3, rfl, sl3, ok3, F3, N3, off3⟩ := Y₂
      rw [frame_as (m := fun z => if z = Str.ofString "x" then _ else m₁ z) [(Str.ofString "steps", .ref D), (Str.ofString "row", .ref ar), (Str.ofString "x", .int (Int.ofNat x) te)]
        (by simp only [List.forall_mem_cons]; exact ⟨(if_neg (by decide)).trans ms, (if_neg (by decide)).trans mr, (if_pos trivial), fun _ h => by cases h⟩)] at F3
      simp only [List.cons_append] at N3
      refine exec_then fun Q1 hQ1 => ?_
      k_steps
      refine hQ1 _ _ ?_
      clear hQ1 Q1
      dsimp only
      rename Fr _ _ _ _ => F4
      rename News _ _ _ _ => N4
      rw [show (Int.ofNat x).fmod 5 = Int.ofNat (x % 5) from fmN x 5, show ((Int.ofNat x).fdiv 5).fmod 5 = Int.ofNat (x / 5 % 5) from by rw [show (Int.ofNat x).fdiv 5 = Int.ofNat (x / 5) from fdN x 5]; exact fmN (x / 5) 5] at F4
      obtain ⟨m4, c1, c2, c3, c4, c5, F5⟩ : ∃ m4 : Str → Option Value, m4 (Str.ofString "one") = some (.int (Int.ofNat (x % 5)) (tk3 + 1)) ∧ m4 (Str.ofString "two") = some (.int (Int.ofNat (x / 5 % 5)) (tk3 + 1 + 1 + 1 + 1 + 1)) ∧ m4 (Str.ofString "steps") = some (.ref D) ∧ m4 (Str.ofString "row") = some (.ref ar) ∧ m4 (Str.ofString "x") = some (.int (Int.ofNat x) te) ∧ Fr g L _ m4 := ⟨_, rfl, rfl, rfl, rfl, rfl, F4⟩
      clear F4
      have hDI : @Ne Nat D I := hl₁ (D, listOf (List.toArray vs) e) (.head _)
      have y4 := fun tk => Stt.of (s₀ := s) (tk := tk) (l := (I, oI) :: (D, listOf (List.toArray vs) e) :: tl) sl3 ok3 F5 (fun p hp => N4 p (.tail _ hp)) off3
      refine wpAny_execs_cons (wpAny_If (wpAny_isTrue_Compare1 ((y4 _).ld c1 ((y4 _).ld c2 (ne_int (wpAny_truthy_bool ?_)) rfl rfl (by decide)) rfl rfl (by decide))))
      have hstep : stepsP rw' (nums.take (i + 1)) = stepsP rw' (nums.take i) ++ stepOf rw' x := by
        rw [List.take_add_one, List.getElem?_eq_getElem hi, hx]
        simp [stepsP]
      by_cases hne : x % 5 = x / 5 % 5
      · rw [if_neg (by simp [hne])]
        refine wpAny_execs_nil (wpAny_execs_nil (hQT .next _ ⟨_, _, ⟨vs, e, tl, rfl, fun h hh => ?_, htl, by omega, c3, c4⟩, hl₁, y4 _⟩))
        rw [hstep]
        unfold stepOf
        rw [if_neg (by simp [hne]), List.append_nil]
        exact hst h hh
      · have hne' : ¬ (((x % 5 : Nat) : Int) = ((x / 5 % 5 : Nat) : Int)) := fun q => hne (by exact_mod_cast q)
        rw [if_pos (by simpa using hne')]
        refine wpAny_execs_cons (wpAny_Expr_any (MethodCall_ ((y4 _).ld c3 ?_ rfl rfl (by decide))) rfl rfl)
        refine (y4 _).lmethod (.tail _ (.head _)) PySem.F.slot_list_append PySem.F.type_list_append (callWith_method1 (args_cons ?_))
        have rowAt : ∀ k < 5, ∃ t, rvs[k]? = some (.int (Int.ofNat (rw' k)) t) := fun k hk => by
          obtain ⟨t, ht⟩ := hri.get k (Int.ofNat (rw' k)) (by
            match k, hk with
            | 0, _ => rfl
            | 1, _ => rfl
            | 2, _ => rfl
            | 3, _ => rfl
            | 4, _ => rfl)
          exact ⟨t, ht⟩
        have o5 : x % 5 < 5 := Nat.mod_lt _ (by decide)
        have t5 : x / 5 % 5 < 5 := Nat.mod_lt _ (by decide)
        obtain ⟨ta, hta⟩ := rowAt (min (x % 5) (x / 5 % 5)) (by omega)
        obtain ⟨tb, htb⟩ := rowAt (max (x % 5) (x / 5 % 5)) (by omega)
        refine wpAny_Tuple_spliced (args_cons (Subscript_ ((y4 _).ld c4 (Call_ ?_) rfl rfl (by decide))))
        refine ld_builtin_at (y4 0).fr TT.g (T.free (Str.ofString "min") (by decide +kernel) (by decide +kernel) (by decide +kernel) (by decide +kernel) (by decide +kernel)) TT.b ((TT.builtins _ (by decide +kernel)).trans Boot.«min») ?_ rfl rfl (by decide)
        refine callWith_builtin1 ?_ star_name plain_name
        refine args_cons ?_ star_name
        refine (y4 _).ld c1 ?_ rfl rfl (by decide)
        refine args_cons ?_
        refine (y4 _).ld c2 ?_ rfl rfl (by decide)
        refine args_nil ?_
        refine minK rfl fun s₅ t₅ k₅ => ?_
        have y5 := (y4 _).kb k₅
        refine item_in (v := .int (Int.ofNat (rw' (min (x % 5) (x / 5 % 5)))) ta) (hrl.at fun o q => y5.fr.keep _ o q) (Int.natCast_nonneg _) (by show ((min (x % 5) (x / 5 % 5) : Nat) : Int) < 2 ^ 63; omega) (by show (List.toArray rvs)[min (x % 5) (x / 5 % 5)]? = _; simpa using hta) ?_ sub_call
        refine args_cons (Subscript_ (y5.ld c4 (Call_ ?_) rfl rfl (by decide)))
        refine ld_builtin_at y5.fr TT.g (T.free (Str.ofString "max") (by decide +kernel) (by decide +kernel) (by decide +kernel) (by decide +kernel) (by decide +kernel)) TT.b ((TT.builtins _ (by decide +kernel)).trans Boot.«max») ?_ rfl rfl (by decide)
        refine callWith_builtin1 ?_ star_name plain_name
        refine args_cons ?_ star_name
        refine y5.ld c1 ?_ rfl rfl (by decide)
        refine args_cons ?_
        refine y5.ld c2 ?_ rfl rfl (by decide)
        refine args_nil ?_
        refine maxK rfl fun s₆ t₆ k₆ => ?_
        have y6 := y5.kb k₆
        refine item_in (v := .int (Int.ofNat (rw' (max (x % 5) (x / 5 % 5)))) tb) (hrl.at fun o q => y6.fr.keep _ o q) (Int.natCast_nonneg _) (by show ((max (x % 5) (x / 5 % 5) : Nat) : Int) < 2 ^ 63; omega) (by show (List.toArray rvs)[max (x % 5) (x / 5 % 5)]? = _; simpa using htb) ?_ sub_call
        refine args_cons (wpAny_BinOp (wpAny_Constant_int (wpAny_BinOp (wpAny_BinOp ((y6.tok).ld c5 (wpAny_Constant_int (floordiv_int (by decide) ?_ (Or.inl ?_))) rfl rfl (by decide))))))
        · refine wpAny_Constant_int (mod_int (by decide) (add_int (args_nil ⟨(show (3 : Nat) ≤ sizeLine by omega), ?_⟩)))
          rw [show (Int.ofNat x).fdiv 25 = Int.ofNat (x / 25) from fdN x 25, show (Int.ofNat (x / 25)).fmod 3 = Int.ofNat (x / 25 % 3) from fmN (x / 25) 3, show (1 : Int) + Int.ofNat (x / 25 % 3) = Int.ofNat (1 + x / 25 % 3) from (by rw [Int.ofNat_eq_natCast, Int.ofNat_eq_natCast]; omega)]
          dsimp only
          generalize hto : Value.int (Int.ofNat (1 + x / 25 % 3)) _ = vt
          obtain ⟨y7, ne7⟩ := (y6.tok (tk := s₆.toks + 1 + 1 + 1 + 1 + 1 + 1)).push { cls := .type "tuple", data := .seq #[.int (Int.ofNat (rw' (min (x % 5) (x / 5 % 5)))) ta, .int (Int.ofNat (rw' (max (x % 5) (x / 5 % 5)))) tb, vt] }
          refine args_nil ?_
          have hn7 : ∀ p ∈ (I, oI) :: (D, listOf (List.toArray vs) e) :: tl, p.1 ≠ s₆.heap.objs.size := ne7
          have hDT : @Ne Nat D s₆.heap.objs.size := hn7 (D, listOf (List.toArray vs) e) (.tail _ (.head _))
          have hIT : @Ne Nat I s₆.heap.objs.size := hn7 (I, oI) (.head _)
          refine Stt.appendL y7 (.tail (Ne.symm hDT) (.tail (Ne.symm hDI) (.head htl))) (by rw [List.size_toArray]; omega) fun s₈ y8 => ?_
          rw [List.push_toArray] at y8
          refine wpAny_execs_nil (wpAny_execs_nil (hQT .next _ ⟨_, (D, listOf (List.toArray (vs ++ [.ref s₆.heap.objs.size])) (e + 1)) :: (tl ++ [(s₆.heap.objs.size, { cls := .type "tuple", data := .seq #[.int (Int.ofNat (rw' (min (x % 5) (x / 5 % 5)))) ta, .int (Int.ofNat (rw' (max (x % 5) (x / 5 % 5)))) tb, vt] })]), ⟨_, _, _, rfl, fun h hh => ?_, ?_, ?_, c3, c4⟩, ?_, y8.sub fun p hp => ?_⟩))
          · rw [hstep]
            unfold stepOf
            rw [if_pos hne]
            refine (hst h fun p hp => hh p (List.mem_append_left _ hp)).append ?_
            subst hto
            exact .cons ⟨_, hh _ (List.mem_append_right _ (.head _)), rfl, _, rfl⟩ .nil
          · intro p hp
            rcases List.mem_append.mp hp with hp | hp
            · exact htl p hp
            · rw [List.mem_singleton.mp hp]; exact Ne.symm hDT
          · rw [List.length_append]; simp; omega
          · intro p hp
            rcases List.mem_cons.mp hp with rfl | hp
            · exact hDI
            · rcases List.mem_append.mp hp with hp | hp
              · exact hl₁ p (.tail _ hp)
              · rw [List.mem_singleton.mp hp]; exact Ne.symm hIT
          · simp only [List.mem_cons, List.mem_append, List.not_mem_nil, or_false] at hp ⊢
            rcases hp with h | h | h | h <;> simp [h]
        · exact PyProof.noPylong_small (by omega)
    · rintro m' l' s' ⟨vs, e, tl, rfl, hst, htl, _, ms, _⟩ Y
      rw [hnsz, List.take_length] at hst
      exact ⟨rfl, m', vs, e, tl, Y, hst, htl, ms⟩
  · rintro s₃ ⟨m, vs, e, tl, Y, hst, htl, ms⟩
    refine wpAny_execs_cons (wpAny_Return_some (Y.ld ms ?_ rfl rfl (by decide)))
    obtain ⟨h7, tk7, frs7, rfl, sl7, ok7, F7, N7, off7⟩ := Y
    exact hR _ _ _ frs7 _ ⟨D, vs, e, tl, rfl, rfl, hst, htl⟩ sl7 F7.keep (fun p hp => ⟨(N7 p hp).1, (N7 p hp).2.2⟩) off7
end Mine
end PartSp

section PartKe
theorem Mine.anewKe : True := by
  w_top off
  trivial
open PySem PySem.W PySem.Calls PyProof.Rows
set_option Elab.async false
set_option maxRecDepth 100000
set_option maxHeartbeats 4000000
set_option linter.all false
namespace Mine
/-- an object that is a list -/
def LO (o : Obj) (vs : List Value) : Prop := o.cls = .type "list" ∧ ∃ n, o.data = .seq (List.toArray vs) n
theorem LO.at {o : Obj} {vs : List Value} {h : Heap} {a : Addr} (x : LO o vs) (e : h.get? a = some o) : h.IsList a (List.toArray vs) := ⟨o, e, x.1, x.2⟩
theorem LO.mk (vs : List Value) (n : Nat) : LO (listOf (List.toArray vs) n) vs := ⟨rfl, n, rfl⟩
theorem LO.of {h : Heap} {a : Addr} {vs : List Value} (x : h.IsList a (List.toArray vs)) : ∃ o, h.get? a = some o ∧ LO o vs := let ⟨o, e, c, d⟩ := x; ⟨o, e, c, d⟩

section
variable {w : World} {A : Around} {E : Value → Shared → Prop} {s : Shared} {env : Env}
theorem maxL {l : Addr} {vs : List Value} {ns : List Int} {Q : Value → Shared → Prop} (hh : A.handled = none) (hl : s.heap.IsList l (List.toArray vs)) (hi : IntsAre vs ns) (hne : ns ≠ [])
    (h : ∀ s' M t, KB [] s s' → M ∈ ns → (∀ a ∈ ns, a ≤ M) → Q (.int M t) s') : wpAny (model PG w) A (call (.builtin "max") [.ref l]) Q E s := by
  have hlen := hi.length
  obtain ⟨xs, e⟩ := hi.allInts.items
  have e2 : ns = PySem.numsOf (List.toArray vs).toList := by rw [show (List.toArray vs).toList = vs from rfl]; exact hi.numsOf.symm
  have hsz : 0 < xs.size := by
    have h1 : (List.toArray vs).size = xs.size := by rw [e]; simp [intItems]
    rw [List.size_toArray, hlen] at h1
    have : 0 < ns.length := List.length_pos_iff.mpr hne
    omega
  rw [e] at hl e2
  rw [nums_intItems] at e2
  subst e2
  refine max_intList hh hl hsz fun v h' tk hv hk => ?_
  obtain ⟨t, rfl⟩ := intItems_at hv
  obtain ⟨h1, h2⟩ := argBest_gt (numAt xs) (xs.size - 1)
  refine h _ _ t (KB.of fun b o _ q => hk b o q) ?_ fun a ha => ?_
  · rw [numAt_eq]; exact getD_mem (by rw [List.length_map, Array.length_toList]; omega)
  · obtain ⟨j, hj, rfl⟩ := mem_getD ha
    rw [List.length_map, Array.length_toList] at hj
    rw [← numAt_eq]; exact h2 j (by omega)
theorem addL {l b : Addr} {vs ws : List Value} {n n2 : Nat} {Q : Value → Shared → Prop} (hl : s.heap.get? l = some (listOf (List.toArray vs) n)) (hb : s.heap.get? b = some (listOf (List.toArray ws) n2)) (hz : vs.length + ws.length ≤ sizeLine)
    (h : ∀ s' D, KB [] s s' → s.heap.get? D = none → s'.heap.get? D = some (listOf (List.toArray (vs ++ ws)) 0) → Q (.ref D) s') : wpAny (model PG w) A (binaryOp .Add (.ref l) (.ref b)) Q E s := by
  refine PySem.P.add_list hl hb (h _ _ (KB.of (tk := s.toks) fun b o _ e => Heap.get?_push_of_some _ e) (none_at _) ?_) (by rw [List.size_toArray, List.size_toArray]; exact hz)
  rw [List.append_toArray]
  exact Heap.get?_push_size _ rfl
/-- a list displayed -/
theorem dispL {elts : List Expr} {pos : Pos} {Q : Value → Shared → Prop} (h : wpAny (model PG w) A (spliced (backTo pos (starEach elts env))) (fun vs s₁ => vs.length ≤ sizeLine ∧ ∀ s' D, KB [] s₁ s' → s₁.heap.get? D = none → s'.heap.get? D = some (listOf (List.toArray vs) 0) → Q (.ref D) s') E s) :
    wpAny (model PG w) A (eval (.List elts pos) env) Q E s :=
  wpAny_List_spliced (wpAny_mono h (fun vs s₁ h₁ => ⟨h₁.1, h₁.2 _ _ (KB.of (tk := s₁.toks) fun b o _ e => Heap.get?_push_of_some _ e) (none_at _) (Heap.get?_push_size _ rfl)⟩) fun _ _ x => x)

variable {g : Heap} {L : Addr} {outer : List Env} {frs0 l : List (Addr × Obj)} {s₀ : Shared} {m : Str → Option Value} {D : Addr} {o : Obj} {u : Obj → List (Addr × Obj)}
theorem Stt.setL {vs : List Value} {k : Nat} {t : Tok} {v : Value} {Q : Unit → Shared → Prop} (y : Stt g L outer frs0 s₀ m l s) (U : UpdF D o l u) (hl : LO o vs) (hk : k < vs.length) (h63 : k < 2 ^ 62)
    (h : ∀ s' o', Stt g L outer frs0 s₀ m (u o') s' → LO o' (vs.set k v) → Q () s') : wpAny (model PG w) A (setItem (.ref D) (.int (Int.ofNat k) t) v) Q E s := by
  have hm := updF_in U
  refine wpAny_setItem_list (hl.at (y.news _ hm).1) (Int.natCast_nonneg _) (by show ((k : Nat) : Int) < 2 ^ 63; omega) (by rw [List.size_toArray]; exact Int.ofNat_lt.mpr hk) fun h' hl' hs => ?_
  obtain ⟨o', e', c', n', d'⟩ := hl'
  obtain ⟨pre, post, rfl, hu, a, c⟩ := U.split
  refine h _ o' ?_ ⟨c', n', ?_⟩
  · rw [hu]
    exact y.turnU (tk := s.toks) (upd_right a (.head c)) (fun b o hb q => hs.extBut b o hb q) e'
  · rw [d', List.setIfInBounds_toArray]; rfl
theorem Stt.mulL {a : Addr} {vs : List Value} {k : Nat} {t : Tok} {Q : Value → Shared → Prop} (y : Stt g L outer frs0 s₀ m l s) (hl : s.heap.IsList a (List.toArray vs)) (hk : vs.length * k ≤ 256) (h6 : k < 1000)
    (h : ∀ s' D, Stt g L outer frs0 s₀ m ((D, listOf (List.toArray (List.replicate k vs).flatten) 0) :: l) s' → (∀ p ∈ l, p.1 ≠ D) → Q (.ref D) s') : wpAny (model PG w) A (binaryOp .Mult (.ref a) (.int (Int.ofNat k) t)) Q E s := by
  obtain ⟨h', tk, frs, rfl, sl, ok, F, N, off⟩ := y
  refine KMa.mul (ws := (List.replicate k vs).flatten) F N hl (by show -(2 ^ 63 : Int) ≤ (k : Int); omega) (by show (k : Int) < 2 ^ 63; omega) hk rfl fun D h₂ F₂ N₂ l₂ => ?_
  refine h _ D ⟨h₂, tk, frs, rfl, sl, ok, F₂, N₂, fun p hp b hb => ?_⟩ fun p hp => Nat.ne_of_lt (l₂ p (List.mem_append_left _ hp))
  rcases List.mem_cons.mp hb with rfl | hb
  · exact Nat.ne_of_lt (l₂ p (List.mem_append_right _ hp))
  · exact off p hp b hb
theorem Stt.ldB {name : Str} {fscope : Scope} {fa : Addr} {cd : Value} {fcl : List (Str × Addr)} {x : Str} {pos : Pos} {v : Value} {mg mb : Str → Option Value} {p : Program} {loose : List Str} {Q : Value → Shared → Prop} (y : Stt g L outer frs0 s₀ m l s) (TT : TopRead p loose mg mb g) (hmg : mg x = none) (hv : bootBuiltins x = some v) (hn : x ≠ "__name__") (h : Q v s)
    (hk : fscope.kind = .function) (hx : (envX name fscope L fa cd fcl).kindOf x = some .globalImplicit) (hd : (x == ("__debug__" : Str)) = false) :
    wpAny (model PG w) A (eval (.Name x pos) (envX name fscope L fa cd fcl)) Q E s :=
  Name_function_global hk hx (loadGlobal_builtin (env := envX name fscope L fa cd fcl) (TT.g.keeps y.fr.keep) hmg (TT.b.keeps y.fr.keep) ((TT.builtins x hn).trans hv) h) hd
end
end Mine
end PartKe

section PartFa
theorem Mine.anewFa : True := by
  w_top off
  trivial
open PySem PySem.W PySem.Calls PyProof.Rows
set_option Elab.async false
set_option maxRecDepth 100000
set_option maxHeartbeats 4000000
set_option linter.all false
namespace Mine
theorem fillFa : hd.heap_1 = hd.heap_1 ∧ PySem.Challenge.rw_mg0051_01 = PySem.Challenge.rw_mg0051_01 := by
  k_fill
  exact ⟨rfl, rfl⟩
local macro_rules | `(tactic| walk_at "setItem") => `(tactic| refine stopAt ?_)
local macro_rules | `(tactic| walk_at "setItem ref int int") => `(tactic| refine stopAt ?_)
local macro_rules | `(tactic| walk_at "setItem ref int") => `(tactic| refine stopAt ?_)

/-- the ways to name that end with a step, one longer -/
noncomputable def farT (sts : List Step) (far : Nat → Int) (name : Nat) : List Int := sts.flatMap fun p => if p.2.1 = name ∧ far p.1 > -1 then [far p.1 + 1] else []
def isMax (M : Int) (l : List Int) : Prop := M ∈ l ∧ ∀ a ∈ l, a ≤ M
/-- what _law_far reckons, name after name -/
inductive FarR (sts : List Step) (start : Nat) (rw' : Nat → Nat) : Nat → (Nat → Int) → Prop
  | zero : FarR sts start rw' 0 (fun j => if j = start then 0 else -1)
  | next {k : Nat} {far : Nat → Int} {M : Int} : FarR sts start rw' k far → isMax M (far (rw' k) :: farT sts far (rw' k)) → FarR sts start rw' (k + 1) (fun j => if j = rw' k then M else far j)
noncomputable def names5 (far : Nat → Int) : List Int := ([0, 1, 2, 3, 4] : List Nat).map far
theorem names5_get (far : Nat → Int) {k : Nat} (hk : k < 5) : (names5 far)[k]? = some (far k) := by
  match k, hk with
  | 0, _ => rfl
  | 1, _ => rfl
  | 2, _ => rfl
  | 3, _ => rfl
  | 4, _ => rfl
theorem ints_set {vs : List Value} {ns : List Int} (h : IntsAre vs ns) : ∀ (k : Nat) (n : Int) (t : Tok), IntsAre (vs.set k (.int n t)) (ns.set k n) := by
  induction h with
  | nil => intro k n t; exact .nil
  | cons n' t' h ih =>
    intro k n t
    cases k with
    | zero => exact .cons _ _ h
    | succ k => exact .cons _ _ (ih k n t)
theorem names5_set (far : Nat → Int) {k : Nat} (hk : k < 5) (M : Int) : (names5 far).set k M = names5 (fun j => if j = k then M else far j) := by
  match k, hk with
  | 0, _ => rfl
  | 1, _ => rfl
  | 2, _ => rfl
  | 3, _ => rfl
  | 4, _ => rfl

theorem farT_snoc (l : List Step) (p : Step) (far : Nat → Int) (n : Nat) : farT (l ++ [p]) far n = farT l far n ++ (if p.2.1 = n ∧ far p.1 > -1 then [far p.1 + 1] else []) := by simp [farT]
theorem farT_len (l : List Step) (far : Nat → Int) (n : Nat) : (farT l far n).length ≤ l.length := by
  induction l with
  | nil => simp [farT]
  | cons p r ih =>
    have : farT (p :: r) far n = (if p.2.1 = n ∧ far p.1 > -1 then [far p.1 + 1] else []) ++ farT r far n := by simp [farT]
    rw [this, List.length_append, List.length_cons]
    split <;> simp <;> omega
theorem law_far_spec (w : World) (as ar : Addr) (sts : List Step) (rw' : Nat → Nat) (start : Nat) (ts : Tok) (hs : ∀ p ∈ sts, p.1 < 5 ∧ p.2.1 < 5) (hl : sts.length ≤ 30) (hr : ∀ k < 5, rw' k < 5) (h5 : start < 5) :
    Spec w 302 7 165 [.ref as, .ref ar, .int (Int.ofNat start) ts] [] (fun g => StepsAt g as sts ∧ ListAt g ar (([0, 1, 2, 3, 4] : List Nat).map fun k => Int.ofNat (rw' k)))
      (fun r pst => ∃ (D : Addr) (o : Obj) (ys : List Value) (far : Nat → Int), r = .ref D ∧ pst = [(D, o)] ∧ LO o ys ∧ IntsAre ys (names5 far) ∧ FarR sts start rw' 5 far) := by
  intro g outer frs s R G hfz ok st hsz N off hR
  obtain ⟨mean, mg, mb, T⟩ := G.T
  have X := G.X
  obtain ⟨⟨svs, hsl, hsa⟩, ⟨rvs, hrl, hri⟩⟩ := hfz
  have hszl : (2000 : Nat) ≤ sizeLine := by rw [sizeLine_eq]; decide
  have TT := topRead_of T
  refine enterC (binds := [(Str.ofString "steps", .ref as), (Str.ofString "row", .ref ar), (Str.ofString "start", .int (Int.ofNat start) ts)]) X T.nolimit st hsz N (by k_is) (by k_is) (show 302 < recursionLimit by decide) (BindsTo.of_eq rfl) ?_ (by decide) ?_ rfl rfl rfl
  · intro n x hx
    simp only [List.mem_cons, List.not_mem_nil, or_false] at hx
    rcases hx with rfl | rfl | rfl <;> exact .inl rfl
  intro L h₁ tk cells hL F N' hcells hfresh
  obtain ⟨oc1, oc2, rfl, hoc1, hoc2⟩ := CellsAre.two hcells
  have hoc1' : oc1.data = .cell none := hoc1
  have hoc2' : oc2.data = .cell none := hoc2
  clear hoc1 hoc2 hcells
  obtain ⟨m0, c1, c2, c3, F0⟩ : ∃ m0 : Str → Option Value, m0 (Str.ofString "steps") = some (.ref as) ∧ m0 (Str.ofString "row") = some (.ref ar) ∧ m0 (Str.ofString "start") = some (.int (Int.ofNat start) ts) ∧ Fr g L h₁ m0 := ⟨_, rfl, rfl, rfl, F⟩
  clear F
  have offc : OwnOff frs [L + 1 + 1, L + 1] := fun p hp b hb => by
    intro e
    simp only [List.mem_cons, List.not_mem_nil, or_false] at hb
    have h0 := (N p (by simpa using hp)).1
    rcases hb with rfl | rfl
    · have := hfresh _ (.head _)
      rw [show (L + 1 + 1, oc1).1 = p.1 from e.symm, h0] at this
      cases this
    · have := hfresh _ (.tail _ (.head _))
      rw [show (L + 1, oc2).1 = p.1 from e.symm, h0] at this
      cases this
  clear hfresh
  have y0 := fun tk => Stt.of (s₀ := s) (tk := tk) (l := [(L + 1 + 1, oc1), (L + 1, oc2)]) (SlotsOf.refl frs) ok F0 N' offc
  -- far = [-1] * 5
  refine wpAny_execs_cons (wpAny_Assign_Name (wpAny_BinOp (dispL (args_cons (UnaryOp_ (wpAny_Constant_int (neg_int (args_nil ⟨by simp; omega, fun s₁ D₁ k₁ f₁ d₁ => wpAny_Constant_int ?_⟩))))))))
  have y1 := ((y0 tk).tok.kb k₁).tok (tk := s₁.toks + 1)
  refine y1.mulL (k := 5) (hl := ⟨_, d₁, rfl, _, rfl⟩) (by simp) (by decide) fun s₂ FD y2 ne2 => ?_
  clear y1
  have n12 : @Ne Nat (L + 1 + 1) FD := ne2 (L + 1 + 1, oc1) (.head _)
  have n11 : @Ne Nat (L + 1) FD := ne2 (L + 1, oc2) (.tail _ (.head _))
  have nLL : @Ne Nat (L + 1 + 1) (L + 1) := Nat.succ_ne_self _
  have nod : [FD, L + 1 + 1, L + 1].Nodup := by
    simp only [List.nodup_cons, List.mem_cons, List.not_mem_nil, or_false, not_or, not_false_eq_true, List.nodup_nil, and_true]
    exact ⟨⟨Ne.symm n12, Ne.symm n11⟩, nLL⟩
  refine y2.stC (c := L + 1) rfl (updF_of [_, _] [] nod) hoc2' (fun s₃ ofar y3 hofar => ?_) rfl rfl
  clear y2
  refine wpAny_execs_cons (wpAny_Assign_Subscript (wpAny_Constant_int (y3.tok.ldC (c := L + 1) rfl (.tail _ (.tail _ (.head _))) hofar (y3.tok.ldX c3 ?_ rfl rfl) rfl rfl)) rfl)
  obtain ⟨tm, htm⟩ : ∃ tm, (List.replicate 5 [Value.int (-1) tm]).flatten = (List.replicate 5 [Value.int (-1) ({ s with heap := h₁, toks := tk } : Shared).toks.succ]).flatten := ⟨_, rfl⟩
  refine y3.tok.setL (vs := (List.replicate 5 [Value.int (-1) _]).flatten) (updF_of [] [_, _] nod) (LO.mk _ _) (by simp; omega) (by omega) fun s₄ oF y4 hF => ?_
  have hI4 : ∃ ys, LO oF ys ∧ IntsAre ys (names5 (fun j => if j = start then 0 else -1)) := by
    refine ⟨_, hF, ?_⟩
    rw [← names5_set (fun _ => -1) h5 0]
    exact ints_set (.cons _ _ (.cons _ _ (.cons _ _ (.cons _ _ (.cons _ _ .nil))))) start 0 _
  clear hF y3 htm
  obtain ⟨ys4, hLO4, hI4⟩ := hI4
  refine execs_mid (fun s' => ∃ (oF oN : Obj) (ys : List Value) (far : Nat → Int), Stt g L outer frs s m0 [(FD, oF), (L + 1 + 1, oN), (L + 1, ofar)] s' ∧ LO oF ys ∧ IntsAre ys (names5 far) ∧ FarR sts start rw' 5 far) (wpAny_For (y4.ldX c2 ?_ rfl rfl)) ?_
  · have hrsz : (List.toArray rvs).size = 5 := by rw [List.size_toArray, hri.length, List.length_map]; rfl
    refine Stt.forS (n := (List.toArray rvs).size) (Src.list (its := List.toArray rvs) rfl (hrl.at fun o e => y4.fr.keep _ o e)) (fun i m l => m = m0 ∧ ∃ (oF oN : Obj) (v0 : Option Value) (ys : List Value) (far : Nat → Int), l = [(FD, oF), (L + 1 + 1, oN), (L + 1, ofar)] ∧ oN.data = .cell v0 ∧ LO oF ys ∧ IntsAre ys (names5 far) ∧ FarR sts start rw' i far)
      y4 ⟨rfl, oF, oc1, none, ys4, _, rfl, hoc1', hLO4, hI4, .zero⟩ ?_ ?_ ?_
    · intro b hb
      rw [List.mem_singleton.mp hb]
      obtain ⟨o, ho, _⟩ := hrl
      exact ⟨o, fun i m₁ l₁ s₁ _ Y => Y.fr.keep _ _ ho⟩
    · rintro I oI i val m₁ l₁ s₁ hi hP ⟨rfl, oF, oN, v0, ys, far, rfl, hoN, hLO, hI, hfar⟩ - hl₁ Y
      refine turn_veil fun QT EQT hQT hEQT => ?_
      rw [hrsz] at hi
      obtain ⟨te, hte⟩ := hri.get i (Int.ofNat (rw' i)) (by
        match i, hi with
        | 0, _ => rfl
        | 1, _ => rfl
        | 2, _ => rfl
        | 3, _ => rfl
        | 4, _ => rfl)
      have hval : val = .int (Int.ofNat (rw' i)) te := by
        have hP' : rvs[i]? = some val := by simpa using hP
        rw [hte] at hP'; exact (Option.some.inj hP').symm
      subst hval
      have hnm5 := hr i hi
      have nodI : [I, FD, L + 1 + 1, L + 1].Nodup := by
        refine List.nodup_cons.mpr ⟨fun hm => ?_, nod⟩
        obtain ⟨q, hq, e⟩ := List.mem_map.mp (show I ∈ [(FD, oF), (L + 1 + 1, oN), (L + 1, ofar)].map (·.1) from hm)
        exact hl₁ q hq e
      refine wpAny_assign_Name (Y.stC (c := L + 1 + 1) rfl (updF_of [_, _] [_] nodI) hoN (fun s₂ oN' Y₂ hoN' => ?_) rfl rfl)
      refine wpAny_execs_cons (wpAny_Assign_Subscript (Call_ ?_) rfl)
      refine Y₂.ldB TT (T.free (Str.ofString "max") (by decide +kernel) (by decide +kernel) (by decide +kernel) (by decide +kernel) (by decide +kernel)) Boot.«max» (by decide +kernel) ?_ rfl rfl (by decide)
      refine callWith_builtin1 (args_cons (wpAny_BinOp (dispL (args_cons (Subscript_ ?_) star_sub))) star_binop) star_binop plain_nil
      refine Y₂.ldC (c := L + 1) rfl (.tail _ (.tail _ (.tail _ (.head _)))) hofar (Y₂.ldC (c := L + 1 + 1) rfl (.tail _ (.tail _ (.head _))) hoN' ?_ rfl rfl) rfl rfl
      have hfl : ∀ s₃, KB [] s₂ s₃ → s₃.heap.IsList FD (List.toArray ys) := fun s₃ k => hLO.at (k.at0 (Y₂.news (FD, oF) (.tail _ (.head _))).1)
      have hfat : ∀ k < 5, ∃ t, ys[k]? = some (.int (far k) t) := fun k hk => hI.get k (far k) (names5_get far hk)
      obtain ⟨tn, htn⟩ := hfat (rw' i) hnm5
      refine item_in (v := .int (far (rw' i)) tn) (hfl _ (KB.refl _ _)) (Int.natCast_nonneg _) (by show ((rw' i : Nat) : Int) < 2 ^ 63; omega) (by show (List.toArray ys)[rw' i]? = _; simpa using htn) ?_ sub_name
      refine args_nil ⟨by simp; omega, fun s₃ D₃ k₃ f₃ d₃ => ?_⟩
      have Y3 := Y₂.kb k₃
      refine compE (J := fun zs => IntsAre zs (farT sts far (rw' i))) (cl := [(Str.ofString "name", L + 1 + 1), (Str.ofString "far", L + 1)]) (by with_unfolding_all rfl) (by decide) rfl (by decide) (fun _ => rfl) (Y3.ldX c1 ?_ rfl rfl)
      have hssz : (List.toArray svs).size = sts.length := by rw [List.size_toArray, hsa.length]
      refine ⟨_, _, _, Src.list (its := List.toArray svs) rfl (hsl.at fun o e => Y3.fr.keep _ o e), ?_, ?_⟩
      · intro I' fp St C D' s₅ c
        refine codeAny_mono (c.emits (fun j zs => IntsAre zs (farT (sts.take j) far (rw' i))) .nil (fun j zs h => ?_) (turn_one ..) ?_) fun r s' hr => ?_
        · have h1 := h.length
          have h2 := farT_len (sts.take j) far (rw' i)
          have h3 : (sts.take j).length ≤ 30 := Nat.le_trans (List.length_take_le' _ _) hl
          omega
        · intro j x zs s' mc E' hj hP hJ kb _ ns
          have hj' : j < sts.length := by rw [← hssz]; exact hj
          obtain ⟨⟨e, l, n⟩, hst⟩ : ∃ st, sts[j]? = some st := ⟨sts[j], by simp [hj']⟩
          obtain ⟨T', te', tl', tn', hvT, hT⟩ := hsa.get hst
          have hx : x = .ref T' := by
            have hP' : svs[j]? = some x := by simpa using hP
            rw [hvT] at hP'; exact (Option.some.inj hP').symm
          subst hx
          have he5 : e < 5 := (hs _ (List.mem_of_getElem? hst)).1
          have y' := Y3.kb kb
          refine cput3 rfl rfl rfl rfl rfl ns (hT.at fun o q => y'.fr.keep _ o q) fun s₆ k₆ n₆ => ⟨k₆, ⟨_, n₆⟩, ?_⟩
          have kb6 := kb.fresh k₆ fun z hz => by rw [List.mem_singleton.mp hz]; exact c.fC
          have kb26 : KB [] s₂ s₆ := k₃.trans kb6
          have gN : s₆.heap.get? (L + 1 + 1) = some oN' := kb26.at0 (Y₂.news (L + 1 + 1, oN') (.tail _ (.tail _ (.head _)))).1
          have gF : s₆.heap.get? (L + 1) = some ofar := kb26.at0 (Y₂.news (L + 1, ofar) (.tail _ (.tail _ (.tail _ (.head _))))).1
          obtain ⟨tfe, htfe⟩ := hfat e he5
          refine wpAny_tests_one (wpAny_isTrue_BoolOp (wpAny_allTrue_And_cons (wpAny_isTrue_Compare1 (cld rfl rfl n₆ ((if_neg (by decide)).trans (if_pos rfl)) (cldC rfl (by first | rfl | with_unfolding_all rfl) (show List.lookup (Str.ofString "name") [(Str.ofString "name", L + 1 + 1), (Str.ofString "far", L + 1)] = some (L + 1 + 1) from rfl) gN hoN' (eq_int (wpAny_truthy_bool ?_)))))))
          have hnx : farT (sts.take (j + 1)) far (rw' i) = farT (sts.take j) far (rw' i) ++ (if l = rw' i ∧ far e > -1 then [far e + 1] else []) := by
            rw [List.take_add_one, hst]; exact farT_snoc _ _ _ _
          by_cases hln : l = rw' i
          · rw [if_pos (by rw [hln]; simp)]
            refine wpAny_allTrue_And_cons (wpAny_isTrue_Compare1 (Subscript_ (cldC rfl (by first | rfl | with_unfolding_all rfl) (show List.lookup (Str.ofString "far") [(Str.ofString "name", L + 1 + 1), (Str.ofString "far", L + 1)] = some (L + 1) from rfl) gF hofar (cld rfl rfl n₆ ((if_neg (by decide)).trans ((if_neg (by decide)).trans (if_pos rfl))) ?_))))
            refine item_in (v := .int (far e) tfe) (hfl s₆ kb26) (Int.natCast_nonneg _) (by show ((e : Nat) : Int) < 2 ^ 63; omega) (by show (List.toArray ys)[e]? = _; simpa using htfe) ?_ sub_name
            refine UnaryOp_ (wpAny_Constant_int (neg_int (gt_int (wpAny_truthy_bool ?_))))
            by_cases hgt : far e > -1
            · rw [if_pos (by simpa using hgt)]
              refine wpAny_allTrue_And_nil ⟨KB.of fun b o _ q => q, ?_⟩
              rw [if_pos rfl]
              refine wpAny_BinOp (Subscript_ (cldC rfl (by first | rfl | with_unfolding_all rfl) (show List.lookup (Str.ofString "far") [(Str.ofString "name", L + 1 + 1), (Str.ofString "far", L + 1)] = some (L + 1) from rfl) gF hofar (cld rfl rfl n₆ ((if_neg (by decide)).trans ((if_neg (by decide)).trans (if_pos rfl))) ?_)))
              refine item_in (v := .int (far e) tfe) (hfl s₆ kb26) (Int.natCast_nonneg _) (by show ((e : Nat) : Int) < 2 ^ 63; omega) (by show (List.toArray ys)[e]? = _; simpa using htfe) ?_ sub_name
              refine wpAny_Constant_int (add_int ⟨KB.of fun b o _ q => q, ?_⟩)
              rw [hnx, if_pos ⟨hln, hgt⟩]
              exact hJ.append (.cons _ _ .nil)
            · rw [if_neg (by simpa using hgt)]
              refine ⟨KB.of fun b o _ q => q, ?_⟩
              rw [if_neg (by decide), hnx, if_neg (fun q => hgt q.2), List.append_nil]
              exact hJ
          · have hln' : ¬ ((l : Int) = (rw' i : Int)) := fun q => hln (by exact_mod_cast q)
            rw [if_neg (by simpa using hln')]
            refine ⟨KB.refl _ _, ?_⟩
            rw [if_neg (by decide), hnx, if_neg (fun q => hln q.1), List.append_nil]
            exact hJ
        · obtain ⟨rfl, zs, a1, a2, a3, a4⟩ := hr
          rw [hssz, List.take_length] at a4
          exact ⟨rfl, zs, a1, a2, a3, a4⟩
      · intro D₄ zs s₄ hJ kb fD dD
        have hzl := hJ.length
        have hzl2 := farT_len sts far (rw' i)
        refine addL (vs := [.int (far (rw' i)) tn]) (ws := zs) (kb.at0 d₃) dD (by simp; omega) fun s₅ D₅ k₅ f₅ d₅ => ?_
        refine args_nil ?_
        refine maxL (vs := .int (far (rw' i)) tn :: zs) rfl ⟨_, d₅, rfl, _, rfl⟩ (.cons _ _ hJ) (by simp) fun s₆ M tM k₆ hM1 hM2 => ?_
        have Y6 := Y3.kb (kb.trans (k₅.trans k₆))
        refine Y6.ldC (c := L + 1) rfl (.tail _ (.tail _ (.tail _ (.head _)))) hofar (Y6.ldC (c := L + 1 + 1) rfl (.tail _ (.tail _ (.head _))) hoN' ?_ rfl rfl) rfl rfl
        have hyl : ys.length = 5 := by rw [hI.length]; rfl
        refine Y6.setL (updF_of [_] [_, _] nodI) hLO (by omega) (by omega) fun s₇ oF' Y7 hLO' => ?_
        refine wpAny_execs_nil (hQT .next _ ⟨m₁, _, ⟨rfl, oF', oN', some _, _, fun j => if j = rw' i then M else far j, rfl, hoN', hLO', ?_, .next hfar ⟨hM1, hM2⟩⟩, ?_, Y7⟩)
        · rw [← names5_set far hnm5 M]
          exact ints_set hI _ _ _
        · intro p hp
          have : p.1 ∈ [FD, L + 1 + 1, L + 1] := List.mem_map_of_mem (f := (·.1)) hp
          exact fun e => (List.nodup_cons.mp nodI).1 (e ▸ this)
    · rintro m' l' s' ⟨rfl, oF, oN, v0, ys, far, rfl, hoN, hLO, hI, hfar⟩ Y
      rw [hrsz] at hfar
      exact ⟨rfl, oF, oN, ys, far, Y, hLO, hI, hfar⟩
  · rintro s₅ ⟨oF, oN, ys, far, Y, hLO, hI, hfar⟩
    refine wpAny_execs_cons (wpAny_Return_some (Y.ldC (c := L + 1) rfl (.tail _ (.tail _ (.head _))) hofar ?_ rfl rfl))
    obtain ⟨h7, tk7, frs7, rfl, sl7, ok7, F7, N7, off7⟩ := Y
    exact hR _ _ _ frs7 [(FD, oF)] ⟨FD, oF, ys, far, rfl, rfl, hLO, hI, hfar⟩ sl7 F7.keep (fun p hp => by
      rcases List.mem_cons.mp hp with rfl | hp
      · exact ⟨(N7 _ (.head _)).1, (N7 _ (.head _)).2.2⟩
      · exact ⟨(N7 p (List.mem_append_right _ hp)).1, (N7 p (List.mem_append_right _ hp)).2.2⟩) (fun p hp b hb => by rw [List.mem_singleton.mp hb]; exact off7 p hp FD (.head _))
end Mine
end PartFa

section PartLw0
theorem Mine.anewLw0 : True := by
  w_top off
  trivial
open PySem PySem.W PySem.Calls PyProof.Rows
set_option Elab.async false
set_option maxRecDepth 100000
set_option maxHeartbeats 4000000
set_option linter.all false
namespace Mine
/-- what holds wherever these objects lie -/
def Hold (imm : List (Addr × Obj)) (P : Heap → Prop) : Prop := ∀ h : Heap, (∀ p ∈ imm, h.get? p.1 = some p.2) → P h
theorem Hold.mono {imm imm' : List (Addr × Obj)} {P : Heap → Prop} (x : Hold imm P) (hs : ∀ p ∈ imm, p ∈ imm') : Hold imm' P := fun h hh => x h fun p hp => hh p (hs p hp)
theorem Hold.cons {imm : List (Addr × Obj)} {P : Heap → Prop} (x : Hold imm P) {p : Addr × Obj} : Hold (p :: imm) P := x.mono fun _ h => .tail _ h
theorem Hold.list {imm : List (Addr × Obj)} {D : Addr} {o : Obj} {vs : List Value} {ns : List Int} (hm : (D, o) ∈ imm) (ho : LO o vs) (hi : IntsAre vs ns) : Hold imm (fun h => ListAt h D ns) := fun h hh => ⟨vs, ho.at (hh _ hm), hi⟩

/-- law's frame: mu may turn, imm stays -/
structure LS (g : Heap) (L : Addr) (s₀ : Shared) (m : Str → Option Value) (mu imm : List (Addr × Obj)) (s : Shared) : Prop where
  st : Stt g L [] [] s₀ m (mu ++ imm) s
  off : ∀ p ∈ imm, p.1 ∉ mu.map (·.1)
  nod : (mu.map (·.1)).Nodup
section
variable {g : Heap} {L : Addr} {s₀ s s' : Shared} {m : Str → Option Value} {mu imm : List (Addr × Obj)} {w : World} {A : Around} {E : Value → Shared → Prop} {D : Addr} {o : Obj}
theorem LS.kb (y : LS g L s₀ m mu imm s) (k : KB [] s s') : LS g L s₀ m mu imm s' := ⟨y.st.kb k, y.off, y.nod⟩
theorem LS.tok {tk : Nat} (y : LS g L s₀ m mu imm s) : LS g L s₀ m mu imm { s with toks := tk } := ⟨y.st.tok, y.off, y.nod⟩
theorem LS.hold {P : Heap → Prop} (y : LS g L s₀ m mu imm s) (x : Hold imm P) : P s.heap := x _ fun p hp => (y.st.news p (List.mem_append_right _ hp)).1
theorem LS.at (y : LS g L s₀ m mu imm s) (hm : (D, o) ∈ mu) : s.heap.get? D = some o := (y.st.news _ (List.mem_append_left _ hm)).1
theorem LS.add (y : LS g L s₀ m mu imm s) (fD : s.heap.get? D = none) (k : KB [] s s') (d : s'.heap.get? D = some o) : LS g L s₀ m mu ((D, o) :: imm) s' := by
  obtain ⟨y1, y2⟩ := y.st.add fD k d
  refine ⟨y1.sub fun p hp => ?_, fun p hp hm => ?_, y.nod⟩
  · simp only [List.mem_append, List.mem_cons] at hp ⊢
    rcases hp with h | h | h <;> simp [h]
  · rcases List.mem_cons.mp hp with rfl | hp
    · obtain ⟨q, hq, e⟩ := List.mem_map.mp hm
      exact y2 q (List.mem_append_left _ hq) e
    · exact y.off p hp hm
theorem LS.addM (y : LS g L s₀ m mu imm s) (fD : s.heap.get? D = none) (k : KB [] s s') (d : s'.heap.get? D = some o) : LS g L s₀ m ((D, o) :: mu) imm s' := by
  obtain ⟨y1, y2⟩ := y.st.add fD k d
  refine ⟨y1, fun p hp hm => ?_, ?_⟩
  · rcases List.mem_cons.mp hm with e | hm
    · exact y2 p (List.mem_append_right _ hp) e
    · exact y.off p hp hm
  · rw [List.map_cons, List.nodup_cons]
    refine ⟨fun hm => ?_, y.nod⟩
    obtain ⟨q, hq, e⟩ := List.mem_map.mp hm
    exact y2 q (List.mem_append_left _ hq) e
theorem LS.upd {u : Obj → List (Addr × Obj)} (y : LS g L s₀ m mu imm s) (U : UpdF D o mu u) : UpdF D o (mu ++ imm) (fun o' => u o' ++ imm) :=
  updF_app U fun p hp e => y.off p hp (e ▸ List.mem_map_of_mem (f := (·.1)) (updF_in U))
theorem LS.of {u : Obj → List (Addr × Obj)} {o' : Obj} {m' : Str → Option Value} (y : LS g L s₀ m mu imm s) (U : UpdF D o mu u) (h : Stt g L [] [] s₀ m' (u o' ++ imm) s') : LS g L s₀ m' (u o') imm s' :=
  ⟨h, by rw [updF_fst U]; exact y.off, by rw [updF_fst U]; exact y.nod⟩

variable {name : Str} {fscope : Scope} {fa : Addr} {cd : Value} {fcl : List (Str × Addr)}
theorem LS.stX {x : Str} {v : Value} {Q : Unit → Shared → Prop} (y : LS g L s₀ m mu imm s) (h : ∀ s', LS g L s₀ (fun z => if z = x then some v else m z) mu imm s' → Q () s')
    (hk : fscope.kind = .function := by rfl) (hl : (envX name fscope L fa cd fcl).kindOf x = some .local := by rfl) :
    wpAny (model PG w) A (storeName (envX name fscope L fa cd fcl) x v) Q E s := y.st.stX (fun s' _ y' => h s' ⟨y', y.off, y.nod⟩) hk hl
theorem LS.stC {x : Str} {v : Value} {v₀ : Option Value} {c : Addr} {o : Obj} {u : Obj → List (Addr × Obj)} {Q : Unit → Shared → Prop} (y : LS g L s₀ m mu imm s) (hc : fcl.lookup x = some c) (U : UpdF c o mu u) (hd : o.data = .cell v₀)
    (h : ∀ s' o', LS g L s₀ m (u o') imm s' → o'.data = .cell (some v) → Q () s')
    (hk : fscope.kind = .function := by rfl) (hx : (envX name fscope L fa cd fcl).kindOf x = some .cell := by rfl) : wpAny (model PG w) A (storeName (envX name fscope L fa cd fcl) x v) Q E s :=
  y.st.stC hc (y.upd U) hd (fun s' o' y' hd' => h s' o' (y.of U y') hd') hk hx
theorem LS.appendL {its : Array Value} {n : Nat} {x : Value} {u : Obj → List (Addr × Obj)} {Q : Value → Shared → Prop} (y : LS g L s₀ m mu imm s) (U : UpdF D (listOf its n) mu u) (hz : its.size ≤ sizeLine) (h : ∀ s', LS g L s₀ m (u (listOf (its.push x) (n + 1))) imm s' → Q .none s') :
    wpAny (model PG w) A (call (.builtin "list.append") [.ref D, x]) Q E s :=
  y.st.appendL (UpdF.toUpd (y.upd U) _) hz fun s' y' => h s' (y.of U y')
theorem LS.extL {b : Addr} {its its2 : Array Value} {n n2 : Nat} {u : Obj → List (Addr × Obj)} {Q : Value → Shared → Prop} (y : LS g L s₀ m mu imm s) (hb : s.heap.get? b = some (listOf its2 n2)) (U : UpdF D (listOf its n) mu u) (hz : its.size + its2.size ≤ sizeLine)
    (h : ∀ s', LS g L s₀ m (u (listOf (its ++ its2) (extE its its2 n))) imm s' → Q .none s') : wpAny (model PG w) A (call (.builtin "list.extend") [.ref D, .ref b]) Q E s :=
  y.st.extL hb (UpdF.toUpd (y.upd U) _) hz fun s' y' => h s' (y.of U y')

/-- a contract used in law -/
theorem LS.call {d u : Nat} {f : Addr} {args : List Value} {fz : Heap → Prop} {post : Value → List (Addr × Obj) → Prop} {env : Env} {Q : Value → Shared → Prop} (y : LS g L s₀ m mu imm s)
    (C : Spec w d u f args [] fz post) (G : Gd w g) (hf : env.frame = some L) (hk : env.scope.kind = .function)
    (hfz : ∀ g' : Heap, g.StaysIn g' → (∀ p ∈ mu ++ imm, g'.get? p.1 = some p.2) → fz g')
    (k : ∀ v s' pst, post v pst → LS g L s₀ m mu (pst ++ imm) s' → Q v s') :
    wpAny (model PG w) (AA d u [env]) (call (.ref f) args) Q E s := by
  obtain ⟨h, tk, frs, rfl, sl, ok, F, N, off⟩ := id y.st
  cases sl
  refine Spec.use C G F N hf hk ok (others := mu ++ imm) (frs := []) (fun p hp => by simpa using hp) (fun p hp b hb => by cases hb) (fun p hp => by cases hp) (fun g' _ st' N' => hfz g' st' fun p hp => (N' p hp).1) ?_
  intro v h' tk' frs' pst hp hs ok' F' N' o1 o2 _
  cases hs
  refine k v _ pst hp ⟨⟨h', tk', [], rfl, .nil, ok', F', fun p hp => N' p ?_, fun p hp => by cases hp⟩, fun p hp hm => ?_, y.nod⟩
  · simp only [List.append_nil, List.mem_append] at hp ⊢
    rcases hp with h | h | h <;> simp [h]
  · rcases List.mem_append.mp hp with hp | hp
    · obtain ⟨q, hq, e⟩ := List.mem_map.mp hm
      exact o1 q (List.mem_append_left _ (List.mem_append_left _ hq)) p.1 (List.mem_map_of_mem hp) e
    · exact y.off p hp hm

/-- a for over a range -/
theorem LS.forR {env : Env} {R : Result → Shared → Prop} {xv : Value} {n : Nat} {P : Nat → Value → Prop} {target : Expr} {body : List Stmt} (hsrc : Src w A xv s n P [])
    (J : Nat → (Str → Option Value) → List (Addr × Obj) → List (Addr × Obj) → Prop) (x : LS g L s₀ m mu imm s) (h0 : J 0 m mu imm)
    (turn : ∀ I oI i v m₁ mu₁ imm₁ s₁, i < n → P i v → J i m₁ mu₁ imm₁ → LS g L s₀ m₁ ((I, oI) :: mu₁) imm₁ s₁ →
      wpAny (model PG w) A (assign target env v) (fun _ s₂ => wpAny (model PG w) A (execs body env) (fun f s₃ => match f with
        | .next | .cont => ∃ m₂ mu₂ imm₂, J (i + 1) m₂ mu₂ imm₂ ∧ LS g L s₀ m₂ ((I, oI) :: mu₂) imm₂ s₃
        | .brk => R (.ok .next) s₃
        | .ret v => R (.ok (.ret v)) s₃) (notedBy (model PG w) A env fun e s' => R (.error e) s') s₂) (notedBy (model PG w) A env fun e s' => R (.error e) s') s₁)
    (done : ∀ m' mu' imm' s', J n m' mu' imm' → LS g L s₀ m' mu' imm' s' → R (.ok .next) s') :
    wpAny (model PG w) A (pyIter xv) (fun it s' => codeAny (model PG w) A (.forLoop target it body [] env) R s') E s := by
  refine Stt.forS hsrc (fun i m l => ∃ mu imm, l = mu ++ imm ∧ J i m mu imm ∧ (∀ p ∈ imm, p.1 ∉ mu.map (·.1)) ∧ (mu.map (·.1)).Nodup) x.st ⟨mu, imm, rfl, h0, x.off, x.nod⟩ (fun b hb => by cases hb) ?_ ?_
  · rintro I oI i v m₁ _ s₁ hi hP ⟨mu₁, imm₁, rfl, hJ, ho, hn⟩ - hl₁ Y
    refine wpAny_mono (turn I oI i v m₁ mu₁ imm₁ s₁ hi hP hJ ⟨Y, fun p hp hm => ?_, ?_⟩) (fun _ s₂ h₂ => wpAny_mono h₂ (fun f s₃ h₃ => ?_) fun _ _ q => q) fun _ _ q => q
    · rcases List.mem_cons.mp hm with e | hm
      · exact hl₁ p (List.mem_append_right _ hp) e
      · exact ho p hp hm
    · rw [List.map_cons, List.nodup_cons]
      refine ⟨fun hm => ?_, hn⟩
      obtain ⟨q, hq, e⟩ := List.mem_map.mp hm
      exact hl₁ q (List.mem_append_left _ hq) e
    · have fin : (∃ m₂ mu₂ imm₂, J (i + 1) m₂ mu₂ imm₂ ∧ LS g L s₀ m₂ ((I, oI) :: mu₂) imm₂ s₃) → ∃ m₂ l₂, (∃ mu imm, l₂ = mu ++ imm ∧ J (i + 1) m₂ mu imm ∧ (∀ p ∈ imm, p.1 ∉ mu.map (·.1)) ∧ (mu.map (·.1)).Nodup) ∧ (∀ p ∈ l₂, p.1 ≠ I) ∧ Stt g L [] [] s₀ m₂ ((I, oI) :: l₂) s₃ := by
        rintro ⟨m₂, mu₂, imm₂, hJ₂, Y₂⟩
        have nod := Y₂.nod
        rw [List.map_cons, List.nodup_cons] at nod
        refine ⟨m₂, mu₂ ++ imm₂, ⟨mu₂, imm₂, rfl, hJ₂, fun p hp hm => Y₂.off p hp (.tail _ hm), nod.2⟩, fun p hp e => ?_, Y₂.st⟩
        rcases List.mem_append.mp hp with hp | hp
        · exact nod.1 (e ▸ List.mem_map_of_mem (f := (·.1)) hp)
        · exact Y₂.off p hp (by rw [e]; exact .head _)
      cases f with
      | next => exact fin h₃
      | cont => exact fin h₃
      | brk => exact h₃
      | ret v => exact h₃
  · rintro m' _ s' ⟨mu', imm', rfl, hJ, ho, hn⟩ Y
    exact done m' mu' imm' s' hJ ⟨Y, ho, hn⟩

-- rules with KB
theorem sortedK {l : Addr} {vs : List Value} {ns : List Int} {Q : Value → Shared → Prop} (hl : s.heap.IsList l (List.toArray vs)) (hI : IntsAre vs ns) (h64 : vs.length < 64)
    (h : ∀ s' D vs' ns' e, KB [] s s' → s.heap.get? D = none → s'.heap.get? D = some (listOf (List.toArray vs') e) → IntsAre vs' ns' → ns'.Perm ns → ns'.Pairwise (· ≤ ·) → Q (.ref D) s') :
    wpAny (model PG w) A (call (.builtin "sorted") [.ref l]) Q E s := by
  refine sorted_ints hl hI h64 fun out ns' a1 a2 a3 => ?_
  obtain ⟨e, he⟩ := sortedAll_at s.heap vs out
  refine h _ _ out.toList ns' e (KB.of (tk := s.toks) fun b o _ q => sortedAll_old q) ?_ he a1 a2 a3
  cases q : s.heap.get? (s.heap.objs.size + 1) with
  | none => rfl
  | some o => exact absurd (Heap.lt_size q) (Nat.not_lt.mpr (Nat.le_succ _))
theorem copyK {l : Addr} {vs : List Value} {Q : Value → Shared → Prop} (hl : s.heap.IsList l (List.toArray vs)) (hz : vs.length ≤ sizeLine)
    (h : ∀ s' D e, KB [] s s' → s.heap.get? D = none → s'.heap.get? D = some (listOf (List.toArray vs) e) → Q (.ref D) s') :
    wpAny (model PG w) A (call (.type "list") [.ref l]) Q E s := by
  obtain ⟨o, ho, hc, n, hd⟩ := hl
  exact call_list_seq (hsz := by rw [List.size_toArray]; exact hz) l (.inl rfl) ho hc hd fun h' c' hk hD => h _ _ c' (KB.of (tk := s.toks) fun b o _ q => hk b o q) (none_at _) hD
theorem rangeK {r : Addr} {t u v : Tok} {Q : Value → Shared → Prop} (hh : A.handled = none) (hr : IsRange s.heap r 0 5 1 t u v)
    (h : ∀ s' D vs e, KB [] s s' → s.heap.get? D = none → s'.heap.get? D = some (listOf (List.toArray vs) e) → IntsAre vs [0, 1, 2, 3, 4] → Q (.ref D) s') :
    wpAny (model PG w) A (call (.type "list") [.ref r]) Q E s := by
  refine call_list_range (n := 5) hh hr (by decide) (by decide) (by decide) fun h' tk acc c hk hD hacc => ?_
  refine h _ _ acc.toList c (KB.of (tk := tk) fun b o _ q => hk b o q) (none_at _) (by simpa using hD) ?_
  obtain ⟨hl, hv⟩ := hacc
  have hg : ∀ i, i < 5 → ∃ t, acc.toList[i]? = some (.int (0 + (i : Int) * 1) t) := fun i hi => by
    have hi' : i < acc.size := by omega
    obtain ⟨t, ht⟩ := hv i acc[i] (Array.getElem?_eq_getElem hi')
    exact ⟨t, by rw [Array.getElem?_toList, Array.getElem?_eq_getElem hi', ht]⟩
  have hl' : acc.toList.length = 5 := by rw [Array.length_toList]; exact hl
  revert hg hl'
  generalize acc.toList = vs
  intro hg hl'
  match vs, hl' with
  | [a, b, c, d, e], _ =>
    obtain ⟨t0, h0⟩ := hg 0 (by decide)
    obtain ⟨t1, h1⟩ := hg 1 (by decide)
    obtain ⟨t2, h2⟩ := hg 2 (by decide)
    obtain ⟨t3, h3⟩ := hg 3 (by decide)
    obtain ⟨t4, h4⟩ := hg 4 (by decide)
    cases h0; cases h1; cases h2; cases h3; cases h4
    exact .cons _ _ (.cons _ _ (.cons _ _ (.cons _ _ (.cons _ _ .nil))))
/-- two pairs of lists compared -/
theorem nePairs {a b a1 a2 b1 b2 : Addr} {ns1 ns2 ms1 ms2 : List Int} {Q : Value → Shared → Prop} (ha : s.heap.IsTuple a #[.ref a1, .ref a2]) (hb : s.heap.IsTuple b #[.ref b1, .ref b2])
    (h1 : ListAt s.heap a1 ns1) (h2 : ListAt s.heap a2 ns2) (h3 : ListAt s.heap b1 ms1) (h4 : ListAt s.heap b2 ms2) (hu : A.units + 64 < cLine) (e1 : ns1 = ms1) (e2 : ns2 = ms2)
    (h : Q (.bool false) s) : wpAny (model PG w) A (compareOp .NotEq (.ref a) (.ref b)) Q E s := by
  subst e1 e2
  obtain ⟨v1, l1, i1⟩ := h1
  obtain ⟨v2, l2, i2⟩ := h2
  obtain ⟨v3, l3, i3⟩ := h3
  obtain ⟨v4, l4, i4⟩ := h4
  obtain ⟨oa, ea, ca, na, da⟩ := ha
  obtain ⟨ob, eb, cb, nb, db⟩ := hb
  have sh : SeqAt.shaped (.tuple [.list (ns1.map PyData.int), .list (ns2.map PyData.int)]) = true := by
    simp [SeqAt.shaped, PyData.canLay0, PyData.canLayAll0, PyData.depth, PyData.depthAll, ke_canLayAll0, ke_depthAll]
  have nm : SeqAt.noMix (.tuple [.list (ns1.map PyData.int), .list (ns2.map PyData.int)]) (.tuple [.list (ns1.map PyData.int), .list (ns2.map PyData.int)]) = true := by
    simp [SeqAt.noMix, SeqAt.noMixAll, noMix_ints]
  refine ne_dataH_same (reads_tuple_at ea ca da (ReadsAll.cons (reads_of_ints l1 i1) (ReadsAll.cons (reads_of_ints l2 i2) .nil))) (reads_tuple_at eb cb db (ReadsAll.cons (reads_of_ints l3 i3) (ReadsAll.cons (reads_of_ints l4 i4) .nil))) sh sh hu nm ?_
  simp only [PySem.Spec.same, PySem.Spec.sameAll, ke_sameAll]
  simpa using h
theorem neList {a b : Addr} {ns ms : List Int} {Q : Value → Shared → Prop} (ha : ListAt s.heap a ns) (hb : ListAt s.heap b ms) (hu : A.units + 64 < cLine) (e : ns = ms) (h : Q (.bool false) s) : wpAny (model PG w) A (compareOp .NotEq (.ref a) (.ref b)) Q E s := by
  obtain ⟨v1, l1, i1⟩ := ha
  obtain ⟨v2, l2, i2⟩ := hb
  refine ne_intsK l1 i1 l2 i2 hu ?_
  rw [decide_eq_true e]; exact h
end
end Mine
end PartLw0

section PartPv0
theorem Mine.anewPv0 : True := by
  w_top off
  trivial
open PySem PySem.W PySem.Calls PyProof.Rows
set_option Elab.async false
set_option linter.all false
namespace Mine
/-- the names behind, in order -/
noncomputable def bhL (sts : List Step) (i : Nat) : List Nat := by
  classical exact (List.range 5).filter fun j => decide (Beh sts i j)
noncomputable def nearL (sts : List Step) (i : Nat) : List Nat := sts.flatMap fun p => if p.1 = i then List.replicate p.2.2 p.2.1 else []
noncomputable def missL (far : Nat → Int) (near over : List Nat) (j : Nat) : List Nat := (List.range j).flatMap fun k => if far (near.getD k 0) = 1 ∧ (near.idxOf (near.getD k 0) = k ∨ ∀ o ∈ over, o < near.getD k 0) then [near.getD k 0] else []
noncomputable def beyL (near over : List Nat) (j : Nat) : List Nat := (List.range j).flatMap fun k => if over.getD k 0 ∉ near ∧ (over.idxOf (over.getD k 0) = k ∨ ∀ o ∈ near, o < over.getD k 0) then [over.getD k 0] else []
noncomputable def nI (l : List Nat) : List Int := l.map Int.ofNat
structure GS (sts : List Step) (rw' : Nat → Nat) : Prop where
  len : sts.length ≤ 6
  st : ∀ p ∈ sts, ∃ a b, a < b ∧ b < 5 ∧ p.1 = rw' a ∧ p.2.1 = rw' b ∧ 1 ≤ p.2.2 ∧ p.2.2 ≤ 3
  lt : ∀ k < 5, rw' k < 5
  inj : ∀ j < 5, ∀ k < 5, rw' j = rw' k → j = k
/-- the step can't be left out -/
def Must (sts : List Step) (a b : Nat) : Prop := Ed sts a b ∧ ¬ ∃ c, Beh sts a c ∧ Beh sts c b
structure KP (sts : List Step) (i : Nat) (kept : List Step) : Prop where
  mem : ∀ p, p ∈ kept ↔ p.1 < i ∧ p.2.2 = 1 ∧ Must sts p.1 p.2.1
  len : kept.length ≤ ((List.range i).flatMap (nearL sts)).length
end Mine
end PartPv0

section PartLw1
theorem Mine.anewLw1 : True := by
  w_top off
  trivial
open PySem PySem.W PySem.Calls PyProof.Rows
set_option Elab.async false
set_option maxRecDepth 100000
set_option maxHeartbeats 4000000
set_option linter.all false
namespace Mine
section
variable {g : Heap} {L : Addr} {s₀ s s' : Shared} {m : Str → Option Value} {mu imm : List (Addr × Obj)} {w : World} {A : Around} {E : Value → Shared → Prop} {D : Addr} {o : Obj}
  {name : Str} {fscope : Scope} {fa : Addr} {cd : Value} {fcl : List (Str × Addr)} {env : Env}
/-- a def of the text called -/
theorem LS_defc {x : Str} {px pos : Pos} {f : Addr} {oc : Value} {od : Option Addr} {fd : FuncData} {osl : Array (Option Value)} {e : Expr} {rest : List Expr} {Q : Value → Shared → Prop} (y : LS g L s₀ m mu imm s) (G : Gd w g)
    (hx : nsIn (hd.heap_1 w.params) mainGlobals x = some (some (.ref f))) (hf : (hd.heap_1 w.params).lookup f = some ⟨oc, od, .func fd, osl⟩)
    (h : wpAny (model PG w) A (spliced (backTo pos (starEach (e :: rest) (envX name fscope L fa cd fcl)))) (fun vs s₁ => g.StaysIn s₁.heap ∧ wpAny (model PG w) A (call (.ref f) vs) Q E s₁) E s)
    (hk : fscope.kind = .function) (hl : (envX name fscope L fa cd fcl).kindOf x = some .globalImplicit) (hd' : (x == ("__debug__" : Str)) = false)
    (he : starEach (e :: rest) (envX name fscope L fa cd fcl) = (false, eval e (envX name fscope L fa cd fcl)) :: starEach rest (envX name fscope L fa cd fcl)) :
    wpAny (model PG w) A (eval (.Call (.Name x px) (e :: rest) [] pos) (envX name fscope L fa cd fcl)) Q E s := by
  obtain ⟨mean, mg, mb, T⟩ := G.T
  refine Call_ (nameG_K y.st.fr G.X (topRead_of T) hx ?_ rfl hk hl hd')
  refine callWith_def (o := ⟨oc, od, .func fd, osl⟩) (fd := fd) rfl (wpAny_mono h (fun vs s₁ h₁ => ⟨G.X.keeps h₁.1 _ _ hf, h₁.2⟩) fun _ _ x => x) he
theorem rangeV {n : Int} {t : Tok} {Q : Value → Shared → Prop} (h : ∀ s' r t' u v, KB [] s s' → IsRange s'.heap r 0 n 1 t' u v → Q (.ref r) s') : wpAny (model PG w) A (call (.type "range") [.int n t]) Q E s :=
  call_range_1 (h _ _ _ _ _ (KB.of fun b o _ e => Heap.get?_push_of_some _ e) (IsRange.new ..))
theorem indexK {l : Addr} {vs : List Value} {ns : List Int} {k : Int} {t : Tok} {Q : Value → Shared → Prop} (hl : s.heap.IsList l (List.toArray vs)) (hi : IntsAre vs ns)
    (hz : ns.length ≤ 1000) (hk : k ∈ ns) (h : ∀ s' t', KB [] s s' → Q (.int (ns.idxOf k : Nat) t') s') :
    wpAny (model PG w) A (call (.builtin "list.index") [.ref l, .int k t]) Q E s := by
  obtain ⟨⟨cls, dd, data, sl⟩, ho, hc, n, hd⟩ := id hl
  simp only at hc hd
  subst hc hd
  have hlen := hi.length
  have hj : ns.idxOf k < ns.length := List.idxOf_lt_length_iff.mpr hk
  refine call_meets PySem.F.slot_list_index ⟨_, ho, rfl⟩ PySem.F.entry_list_index (PySem.F.args_list_index_2 _ _)
    (SeqAt.list_indexAt l (List.toArray vs) n dd sl (.int k t) (isInt k) (ns.idxOf k) (by simpa [hlen] using hj) (by omega) ?_ ?_) ⟨ho, fun y hy => (eq_isInt k t hi y (by simpa using hy)).at _ _, h _ _ (KB.of fun b o _ e => e)⟩
  · show isInt k vs[ns.idxOf k] = true
    rw [isInt_at k hi _ (by omega) hj]
    simpa using List.getElem_idxOf hj
  · intro j hjs hlt
    show isInt k vs[j] = false
    rw [isInt_at k hi j (by simpa using hjs) (by omega)]
    exact ne_of_lt_idxOf hlt _
theorem tupItem {value slice : Expr} {l : Addr} {items : Array Value} {k : Int} {u : Tok} {v : Value} {Q : Value → Shared → Prop} (hl : s.heap.IsTuple l items) (h0 : 0 ≤ k) (hhi : k < 2 ^ 63) (hx : items[k.toNat]? = some v) (h : Q v s)
    (hs : subscripted slice false (.ref l) (.int k u) = operate [.ref l, .int k u] (getItem (.ref l) (.int k u))) :
    wpAny (model PG w) A (subscriptTail value slice (.ref l) (.int k u)) Q E s := by
  have ht : IsTup s.heap l items := hl
  have hn : k < ((items.size : Nat) : Int) := by
    have : k.toNat < items.size := by
      by_cases h : k.toNat < items.size
      · exact h
      · rw [Array.getElem?_eq_none (by omega)] at hx; cases hx
    omega
  exact tail_any ht.typeIs PySem.F.slot_tuple_getitem.lookup (getItem_tuple ht (by omega) hhi (seqIndex_of h0 hn) hx h) hs

inductive CSrcA (w : World) (A : Around) (g : Heap) (L : Addr) (s₀ : Shared) (env : Env) (scope : Scope) (cl : List (Str × Addr)) (elt target iter : Expr) (ifs : List Expr) (gs : List Comprehension) (pos : Pos) (J : List Value → Prop) (x : Str) (Q : Flow → Shared → Prop) (xv : Value) (s₁ : Shared) : Prop
  | mk (m : Str → Option Value) (mu imm : List (Addr × Obj)) (n : Nat) (P : Nat → Value → Prop) (fs : List Addr) (y : LS g L s₀ m mu imm s₁) (src : Src w A xv s₁ n P fs)
    (loop : ∀ I fp St C D s₂, CIn w A s₁ n P I fp St C D [] s₂ → codeAny (model PG w) A (.compLoop (.ListComp elt (⟨target, iter, ifs, 0⟩ :: gs) scope pos) 0 (.ref I) (.ref D) (compEnvC scope cl C env)) (CFin I C D J s₂) s₂)
    (fin : ∀ D ys s', J ys → LS g L s₀ (fun z => if z = x then some (.ref D) else m z) mu ((D, lsO ys) :: imm) s' → Q .next s') : CSrcA w A g L s₀ env scope cl elt target iter ifs gs pos J x Q xv s₁
theorem LS_compA {elt target iter : Expr} {ifs : List Expr} {gs : List Comprehension} {scope : Scope} {pos : Pos} {cl : List (Str × Addr)} {J : List Value → Prop} {x : Str} {px spos : Pos} {Q : Flow → Shared → Prop} (hsw : swapsWith (.ListComp elt (⟨target, iter, ifs, 0⟩ :: gs) scope pos) (some (.Name x px)) spos.line (envX name fscope L fa cd fcl) = pure true)
    (hclos : closureFor scope (envX name fscope L fa cd fcl) = pure cl) (hcell : ∀ y ∈ scope.names, y.2 ≠ .cell) (hkind : scope.kind = .function) (hnames : ∀ y ∈ scope.names, y.2 = .local → scope.names.lookup y.1 = some .local)
    (hs : ∀ x, foldedSetIterable iter (envX name fscope L fa cd fcl) x = pure x) (hk : fscope.kind = .function) (hl : (envX name fscope L fa cd fcl).kindOf x = some .local)
    (h : wpAny (model PG w) A (eval iter (envX name fscope L fa cd fcl)) (CSrcA w A g L s₀ (envX name fscope L fa cd fcl) scope cl elt target iter ifs gs pos J x Q) E s) :
    wpAny (model PG w) A (exec (.Assign [.Name x px] (.ListComp elt (⟨target, iter, ifs, 0⟩ :: gs) scope pos) spos) (envX name fscope L fa cd fcl)) Q E s := by
  refine compA (J := J) (g := g) (outer := []) (frs0 := []) (s₀ := s₀) hsw hclos hcell hkind hnames hs hk hl (wpAny_mono h (fun xv s₁ h₁ => ?_) fun _ _ x => x)
  obtain ⟨m, mu, imm, n, P, fs, y, hsrc, hloop, hfin⟩ := h₁
  refine ⟨m, mu ++ imm, n, P, fs, y.st, hsrc, hloop, fun D ys s' hJ _ y' ne => hfin D ys s' hJ ⟨y'.sub fun p hp => ?_, fun p hp hm => ?_, y.nod⟩⟩
  · simp only [List.mem_append, List.mem_cons] at hp ⊢
    rcases hp with h | h | h <;> simp [h]
  · rcases List.mem_cons.mp hp with rfl | hp
    · obtain ⟨q, hq, e⟩ := List.mem_map.mp hm
      exact ne q (List.mem_append_left _ hq) e
    · exact y.off p hp hm
/-- the builtins that law asks for are not hidden -/
theorem bi_free (G : Gd w g) : ∃ p loose mg mb, TopRead p loose mg mb g ∧ mg (Str.ofString "range") = none ∧ mg (Str.ofString "list") = none ∧ mg (Str.ofString "sorted") = none ∧ mg (Str.ofString "len") = none ∧ mg (Str.ofString "max") = none := by
  obtain ⟨mean, mg, mb, T⟩ := G.T
  exact ⟨_, _, mg, mb, topRead_of T, T.free (Str.ofString "range") (by decide +kernel) (by decide +kernel) (by decide +kernel) (by decide +kernel) (by decide +kernel), T.free (Str.ofString "list") (by decide +kernel) (by decide +kernel) (by decide +kernel) (by decide +kernel) (by decide +kernel),
    T.free (Str.ofString "sorted") (by decide +kernel) (by decide +kernel) (by decide +kernel) (by decide +kernel) (by decide +kernel), T.free (Str.ofString "len") (by decide +kernel) (by decide +kernel) (by decide +kernel) (by decide +kernel) (by decide +kernel), T.free (Str.ofString "max") (by decide +kernel) (by decide +kernel) (by decide +kernel) (by decide +kernel) (by decide +kernel)⟩
theorem star_const {c : Const} {kk : Nat} {p : Pos} {rest : List Expr} {env : Env} : starEach (.Constant c kk p :: rest) env = (false, eval (.Constant c kk p) env) :: starEach rest env := rfl
theorem star_call {f : Expr} {args : List Expr} {kw : List Keyword} {p : Pos} {rest : List Expr} {env : Env} : starEach (.Call f args kw p :: rest) env = (false, eval (.Call f args kw p) env) :: starEach rest env := rfl
theorem LS_range {px pos pc : Pos} {kk : Nat} {n : Int} {p : Program} {loose : List Str} {mg mb : Str → Option Value} {Q : Value → Shared → Prop} (y : LS g L s₀ m mu imm s) (TT : TopRead p loose mg mb g) (hf : mg (Str.ofString "range") = none)
    (h : ∀ s' r t' u v, KB [] s s' → IsRange s'.heap r 0 n 1 t' u v → Q (.ref r) s') (hk : fscope.kind = .function) (hx : (envX name fscope L fa cd fcl).kindOf (Str.ofString "range") = some .globalImplicit) :
    wpAny (model PG w) A (eval (.Call (.Name (Str.ofString "range") px) [.Constant (.int n) kk pc] [] pos) (envX name fscope L fa cd fcl)) Q E s := by
  refine Call_ (y.st.ldB TT hf Boot.«range» (by decide +kernel) ?_ hk hx (by decide))
  refine callWith_type1 (args_cons (wpAny_Constant_int (args_nil ?_)) star_const) star_const plain_nil
  refine rangeV fun s' r t' u v kb hr => h s' r t' u v ((KB.of fun b o _ e => e : KB [] s _).trans kb) hr
end
end Mine
end PartLw1

section PartLw2
theorem Mine.anewLw2 : True := by
  w_top off
  trivial
open PySem PySem.W PySem.Calls PyProof.Rows
set_option Elab.async false
set_option maxRecDepth 100000
set_option maxHeartbeats 4000000
set_option linter.all false
namespace Mine
def CPostH (C D : Addr) (J : List Value → Heap → Prop) (s s' : Shared) : Prop := ∃ ys', KB [C, D] s s' ∧ (∃ mc, s'.heap.Ns C mc) ∧ s'.heap.get? D = some (lsO ys') ∧ J ys' s'.heap
def CFinH (I C D : Addr) (J : List Value → Heap → Prop) (s₂ : Shared) (r : Result) (s' : Shared) : Prop := r = .ok .next ∧ ∃ ys, KB [I, C, D] s₂ s' ∧ (∃ mc, s'.heap.Ns C mc) ∧ s'.heap.get? D = some (lsO ys) ∧ J ys s'.heap
section
variable {w : World} {A : Around} {R : Result → Shared → Prop} {s : Shared}
theorem cloopH {elt : Expr} {gens : List Comprehension} {scope : Scope} {pos : Pos} {d : Nat} {target iter : Expr} {ifs : List Expr} {I C D : Addr} {cenv : Env} {rest : Sem Fin} {fp : List Addr} {n : Nat} {P : Nat → Value → Prop} {St : Nat → Heap → Prop} {ys0 : List Value}
    (ht : compTurn (.ListComp elt gens scope pos) d (.ref I) (.ref D) cenv = turnT (.ListComp elt gens scope pos) d target iter ifs (.ref I) (.ref D) cenv rest)
    (W : Walks PG w A I fp [I] n P St) (hC : C ∉ fp) (hD : D ∉ fp) (J : Nat → List Value → Heap → Prop) (stab : ∀ i ys h h', (∀ b o, b ∉ [I, D] → h.get? b = some o → h'.get? b = some o) → J i ys h → J i ys h') (hst : St 0 s.heap) (hn : ∃ mc, s.heap.Ns C mc) (hd : s.heap.get? D = some (lsO ys0)) (hJ : J 0 ys0 s.heap)
    (turn : ∀ i v ys s' (E' : Value → Shared → Prop), i < n → P i v → J i ys s'.heap → KB [I, C, D] s s' → (∃ mc, s'.heap.Ns C mc) → s'.heap.get? D = some (lsO ys) → St (i + 1) s'.heap →
      wpAny (model PG w) A (letOwnedTupleGo target (.ref I) v) (fun _ s₁ => wpAny (model PG w) A (assign target cenv v) (fun _ s₂ => wpAny (model PG w) A (testsT ifs cenv) (fun ok s₃ =>
        if ok = true then wpAny (model PG w) A rest (fun f s₄ => f = .again (.compLoop (.ListComp elt gens scope pos) d (.ref I) (.ref D) cenv) ∧ CPostH C D (J (i + 1)) s' s₄) E' s₃ else CPostH C D (J (i + 1)) s' s₃) E' s₂) E' s₁) E' s')
    (fin : ∀ ys s', J n ys s'.heap → KB [I, C, D] s s' → (∃ mc, s'.heap.Ns C mc) → s'.heap.get? D = some (lsO ys) → R (.ok .next) s') :
    codeAny (model PG w) A (.compLoop (.ListComp elt gens scope pos) d (.ref I) (.ref D) cenv) R s := by
  have hIf : I ∈ fp := W.sub I (List.mem_singleton.mpr rfl)
  have hIC : I ≠ C := fun q => hC (q ▸ hIf)
  have hID : I ≠ D := fun q => hD (q ▸ hIf)
  refine codeAny_loop rfl (fun k s' => ∃ i ys, k = n + 1 - i ∧ i ≤ n ∧ J i ys s'.heap ∧ KB [I, C, D] s s' ∧ (∃ mc, s'.heap.Ns C mc) ∧ s'.heap.get? D = some (lsO ys) ∧ St i s'.heap) ?_ (n + 1) ⟨0, ys0, rfl, Nat.zero_le _, hJ, KB.refl _ _, hn, hd, hst⟩
  rintro k s' ⟨i, ys, rfl, hi, hJi, kb, hn', hd', st⟩
  show wpAny _ A ((compTurn (.ListComp elt gens scope pos) d (.ref I) (.ref D) cenv).onRaise (fun x => do noteFrame x cenv; theTreesLotGoes x)) _ _ s'
  refine wpAny_noted ?_
  rw [ht]
  refine wpAny_bind (wpAny_standAt (wpAny_bind ?_))
  by_cases hlt : i < n
  · refine W.item i s' _ _ hlt st fun v h' tk hP st' hk => ?_
    have kb1 : KB [I] s' { s' with heap := h', toks := tk } := KB.of fun b o hb e => hk b o hb e
    have kb2 : KB [I, C, D] s { s' with heap := h', toks := tk } := kb.trans (kb1.mono fun z hz => by simp at hz; simp [hz])
    have hn2 : ∃ mc, h'.Ns C mc := let ⟨mc, q⟩ := hn'; ⟨mc, q.at' fun o e => hk C o (by simpa using Ne.symm hIC) e⟩
    have hd2 : h'.get? D = some (lsO ys) := hk D _ (by simpa using Ne.symm hID) hd'
    refine wpAny_bind (wpAny_mono (turn i v ys _ _ hlt hP (stab _ _ _ _ (fun b o hb e => hk b o (fun hm => hb (by rw [List.mem_singleton.mp hm]; exact .head _)) e) hJi) kb2 hn2 hd2 st') (fun _ s₁ h₁ => wpAny_bind (wpAny_mono h₁ (fun _ s₂ h₂ => wpAny_bind (wpAny_mono h₂ (fun ok s₃ h₃ => ?_) fun _ _ x => x)) fun _ _ x => x)) fun _ _ x => x)
    have fin2 : ∀ s₄, CPostH C D (J (i + 1)) { s' with heap := h', toks := tk } s₄ → ∃ m, m < n + 1 - i ∧ ∃ i ys, m = n + 1 - i ∧ i ≤ n ∧ J i ys s₄.heap ∧ KB [I, C, D] s s₄ ∧ (∃ mc, s₄.heap.Ns C mc) ∧ s₄.heap.get? D = some (lsO ys) ∧ St i s₄.heap := by
      rintro s₄ ⟨ys', k4, n4, d4, j4⟩
      refine ⟨n + 1 - (i + 1), by omega, i + 1, ys', rfl, hlt, j4, kb2.trans (k4.mono fun z hz => by simp at hz ⊢; exact .inr hz), n4, d4, W.frame _ _ _ st' fun b hb o q => k4.at ?_ q⟩
      simp only [List.mem_cons, List.not_mem_nil, or_false, not_or]
      exact ⟨fun q => hC (q ▸ hb), fun q => hD (q ▸ hb)⟩
    cases ok with
    | false => exact wpAny_pure ⟨rfl, fin2 _ h₃⟩
    | true => exact wpAny_mono h₃ (fun f s₄ h₄ => by obtain ⟨rfl, h₄⟩ := h₄; exact ⟨rfl, fin2 _ h₄⟩) fun _ _ x => x
  · have hin : i = n := by omega
    subst hin
    refine W.done s' _ _ st fun h' tk hk => wpAny_pure ?_
    have kb1 : KB [I] s' { s' with heap := h', toks := tk } := KB.of fun b o hb e => hk b o hb e
    refine fin ys _ (stab _ _ _ _ (fun b o hb e => hk b o (fun hm => hb (by rw [List.mem_singleton.mp hm]; exact .head _)) e) hJi) (kb.trans (kb1.mono fun z hz => by simp at hz; simp [hz])) ?_ (hk D _ (by simpa using Ne.symm hID) hd')
    obtain ⟨mc, q⟩ := hn'
    exact ⟨mc, q.at' fun o e => hk C o (by simpa using Ne.symm hIC) e⟩

theorem cemitH {e elt : Expr} {d : Nat} {it : Value} {C D : Addr} {cenv : Env} {ys : List Value} {J : List Value → Heap → Prop} {s' s₃ : Shared} {E' : Value → Shared → Prop} (stab : ∀ ys h h', (∀ b o, b ≠ D → h.get? b = some o → h'.get? b = some o) → J ys h → J ys h') (hCD : C ≠ D) (k : KB [C] s' s₃) (hn : ∃ mc, s₃.heap.Ns C mc) (hd : s'.heap.get? D = some (lsO ys)) (hl : ys.length ≤ sizeLine)
    (h : wpAny (model PG w) A (eval elt cenv) (fun y s₄ => KB [] s₃ s₄ ∧ J (ys ++ [y]) s₄.heap) E' s₃) :
    wpAny (model PG w) A (emitT e d elt it (.ref D) cenv) (fun f s₄ => f = .again (.compLoop e d it (.ref D) cenv) ∧ CPostH C D J s' s₄) E' s₃ := by
  refine wpAny_bind (wpAny_bind (wpAny_mono h (fun y s₄ h₄ => ?_) fun _ _ x => x))
  obtain ⟨k4, j4⟩ := h₄
  have d4 : s₄.heap.get? D = some (lsO ys) := k4.at0 (k.at (by simpa using Ne.symm hCD) hd)
  refine wpAny_bind (append_at (hsz := by rw [List.size_toArray]; exact hl) d4 fun h5 hs5 hD5 => wpAny_pure (wpAny_pure ⟨rfl, ?_⟩))
  have k5 : KB [D] s₄ { s₄ with heap := h5, toks := s₄.toks } := KB.of fun b o hb e => hs5.extBut b o (by simpa using hb) e
  obtain ⟨mc, q⟩ := hn
  refine ⟨ys ++ [y], (k.mono fun z hz => by simp at hz; simp [hz]).trans ((k4.mono fun z hz => by cases hz).trans (k5.mono fun z hz => by simp at hz; simp [hz])), ⟨mc, ?_⟩, hD5.trans (congrArg some (lsO_snoc ys y)), stab _ _ _ (fun b o hb e => hs5.extBut b o hb e) j4⟩
  exact k5.ns (by simpa using hCD) (k4.ns (by simp) q)
end
section
variable {w : World} {A : Around} {E : Value → Shared → Prop} {s : Shared} {env : Env} {scope : Scope} {cl : List (Str × Addr)} {C : Addr}
variable {s₁ s₂ : Shared} {n : Nat} {P : Nat → Value → Prop} {I : Addr} {fp : List Addr} {St : Nat → Heap → Prop} {D : Addr} {elt target iter : Expr} {ifs : List Expr} {pos : Pos} {ys0 : List Value}
/-- a loop that emits -/
theorem CIn.emitsH {gens : List Comprehension} {d : Nat} (c : CIn w A s₁ n P I fp St C D ys0 s₂) (J : Nat → List Value → Heap → Prop) (stab : ∀ i ys h h', (∀ b o, b ∉ [I, D] → h.get? b = some o → h'.get? b = some o) → J i ys h → J i ys h') (hJ : J 0 ys0 s₂.heap) (hl : ∀ i ys h, J i ys h → ys.length ≤ sizeLine)
    (ht : compTurn (.ListComp elt gens scope pos) d (.ref I) (.ref D) (compEnvC scope cl C env) = turnT (.ListComp elt gens scope pos) d target iter ifs (.ref I) (.ref D) (compEnvC scope cl C env) (emitT (.ListComp elt gens scope pos) d elt (.ref I) (.ref D) (compEnvC scope cl C env)))
    (turn : ∀ i v ys s' mc (E' : Value → Shared → Prop), i < n → P i v → J i ys s'.heap → KB [] s₁ s' → KB [I, C, D] s₂ s' → s'.heap.Ns C mc → s'.heap.get? D = some (lsO ys) → (∃ o, s'.heap.get? I = some o) →
      wpAny (model PG w) A (assign target (compEnvC scope cl C env) v) (fun _ s₄ => KB [C] s' s₄ ∧ (∃ mc, s₄.heap.Ns C mc) ∧ wpAny (model PG w) A (testsT ifs (compEnvC scope cl C env)) (fun ok s₅ => KB [] s₄ s₅ ∧
        if ok = true then wpAny (model PG w) A (eval elt (compEnvC scope cl C env)) (fun y s₆ => KB [] s₅ s₆ ∧ J (i + 1) (ys ++ [y]) s₆.heap) E' s₅ else J (i + 1) ys s₅.heap) E' s₄) E' s') :
    codeAny (model PG w) A (.compLoop (.ListComp elt gens scope pos) d (.ref I) (.ref D) (compEnvC scope cl C env)) (CFinH I C D (J n) s₂) s₂ := by
  refine cloopH ht c.walks c.hC c.hD J stab c.st c.ns c.d hJ ?_ fun ys s' j k n' d' => ⟨rfl, ys, k, n', d', j⟩
  rintro i v ys s' E' hi hP hJi kb ⟨mc, hn⟩ hd st
  refine c.go.1 _ _ _ _ _ _ st (wpAny_mono (turn i v ys s' mc E' hi hP hJi (c.up kb) kb hn hd (c.go.2 _ _ st)) (fun _ s₄ h₄ => ?_) fun _ _ x => x)
  obtain ⟨k4, ⟨mc4, n4⟩, h₄⟩ := h₄
  refine wpAny_mono h₄ (fun ok s₅ h₅ => ?_) fun _ _ x => x
  obtain ⟨k5, h₅⟩ := h₅
  have k45 := k4.trans (k5.mono (W' := [C]) fun z hz => by cases hz)
  cases ok with
  | false =>
    exact ⟨ys, k45.mono fun z hz => by simp at hz; simp [hz], ⟨mc4, k5.ns (by simp) n4⟩, k45.at (by simpa using Ne.symm c.hCD) hd, h₅⟩
  | true => exact cemitH (fun ys h h' q => stab _ _ _ _ fun b o hb e => q b o (fun z => hb (by rw [z]; exact .tail _ (.head _))) e) c.hCD k45 ⟨mc4, k5.ns (by simp) n4⟩ hd (hl _ _ _ hJi) h₅

end
section
variable {w : World} {A : Around} {E : Value → Shared → Prop} {s : Shared} {env : Env} {scope : Scope} {cl : List (Str × Addr)} {elt target iter : Expr} {ifs : List Expr} {gs : List Comprehension} {pos : Pos} {J : Addr → Addr → Addr → List Value → Heap → Prop}
theorem comp_anyH {use : Option (Value → Sem Unit)} {cpos : Pos} {Q : Value → Shared → Prop} (hclos : closureFor scope env = pure cl) (hcell : ∀ y ∈ scope.names, y.2 ≠ .cell) (hkind : scope.kind = .function) (hnames : ∀ y ∈ scope.names, y.2 = .local → scope.names.lookup y.1 = some .local)
    (hs : ∀ x, foldedSetIterable iter env x = pure x)
    (h : wpAny (model PG w) A (eval iter env) (fun xv s₁ => ∃ n P fs, Src w A xv s₁ n P fs ∧
      (∀ I fp St C D s₂, CIn w A s₁ n P I fp St C D [] s₂ → codeAny (model PG w) A (.compLoop (.ListComp elt (⟨target, iter, ifs, 0⟩ :: gs) scope pos) 0 (.ref I) (.ref D) (compEnvC scope cl C env)) (CFinH I C D (J I C D) s₂) s₂) ∧
      (∀ I C D ys s', s₁.heap.get? I = none → s₁.heap.get? C = none → s₁.heap.get? D = none → C ≠ D → J I C D ys s'.heap → KB [] s₁ s' → (∃ mc, s'.heap.Ns C mc) → s'.heap.get? D = some (lsO ys) → compPost (model PG w) A E use Q (.ref D) C (.ok .next) s')) E s) :
    wpAny (model PG w) A (comprehension (.ListComp elt (⟨target, iter, ifs, 0⟩ :: gs) scope pos) scope env cpos (newList []) false (eval iter env) use) Q E s := by
  refine wpAny_comprehension_free rfl hs hclos hkind hnames (wpAny_mono h (fun xv s₁ h₁ => ?_) fun _ _ x => x)
  obtain ⟨n, P, fs, hsrc, hloop, hfin⟩ := h₁
  refine hsrc _ _ fun I fp St h₂ W st hfp _ fI kp go => ?_
  refine wpAny_newObj_type (wpAny_newFunctionEnv hcell (by intro y hy; simp at hy) (fun h₁ hns₁ hsb₁ => ?_) hkind)
  dsimp only at hns₁ hsb₁ ⊢
  generalize hH2 : h₂.push { cls := .type "list", dict := none, data := .seq ([] : List Value).toArray } = H2 at hns₁ hsb₁ ⊢
  have hC : H2.objs.size = h₂.objs.size + 1 := by rw [← hH2, push_size]
  have hDC : h₂.objs.size ≠ H2.objs.size := by rw [hC]; exact Nat.ne_of_lt (Nat.lt_succ_self _)
  have below : ∀ b, b < h₂.objs.size → b ≠ H2.objs.size ∧ b ≠ h₂.objs.size := fun b hb => ⟨by rw [hC]; exact Nat.ne_of_lt (Nat.lt_succ_of_lt hb), Nat.ne_of_lt hb⟩
  have old : ∀ b o, h₂.get? b = some o → h₁.get? b = some o := fun b o e => hsb₁.extBut b o (below b (Heap.lt_size e)).1 (Heap.get?_push_of_some _ (hH2 ▸ Heap.get?_push_of_some _ e))
  have fresh : ∀ a, h₂.objs.size ≤ a → s₁.heap.get? a = none := fun a ha => by
    cases e : s₁.heap.get? a with
    | none => rfl
    | some o' => exact absurd (Heap.lt_size (kp _ _ e)) (Nat.not_lt.mpr ha)
  have loop : ∀ s₃ : Shared, s₃ = { s₁ with heap := h₁, toks := s₁.toks + ([] : List (Str × Value)).length } →
      codeAny (model PG w) A (.compLoop (.ListComp elt (⟨target, iter, ifs, 0⟩ :: gs) scope pos) 0 (.ref I) (.ref h₂.objs.size) (compEnvC scope cl H2.objs.size env))
        (compPost (model PG w) A E use Q (.ref h₂.objs.size) H2.objs.size) s₃ := by
    rintro s₃ rfl
    have kb : KB [] s₁ { s₁ with heap := h₁, toks := s₁.toks + ([] : List (Str × Value)).length } := KB.of fun b o _ e => old b o (kp b o e)
    have c : CIn w A s₁ n P I fp St H2.objs.size h₂.objs.size [] { s₁ with heap := h₁, toks := s₁.toks + ([] : List (Str × Value)).length } :=
      ⟨W, W.frame _ _ _ st fun b _ o e => old b o e, fun hm => by have := hfp _ hm; rw [hC] at this; exact Nat.lt_irrefl _ (Nat.lt_of_succ_lt this), fun hm => Nat.lt_irrefl _ (hfp _ hm), Ne.symm hDC, fI, fresh _ (by rw [hC]; exact Nat.le_succ _), fresh _ (Nat.le_refl _), kb, ⟨_, hns₁⟩,
        hsb₁.extBut _ _ hDC (Heap.get?_push_of_some _ (hH2 ▸ Heap.get?_push_size _ rfl)), go⟩
    refine codeAny_mono (hloop _ _ _ _ _ _ c) fun r s' hr => ?_
    obtain ⟨rfl, ys, k', n', d', j'⟩ := hr
    refine hfin _ _ _ ys s' c.fI c.fC c.fD c.hCD j' (kb.fresh k' fun z hz => ?_) n' d'
    simp only [List.mem_cons, List.not_mem_nil, or_false] at hz
    rcases hz with rfl | rfl | rfl
    · exact c.fI
    · exact c.fC
    · exact c.fD
  have hst₁ : St 0 h₁ := W.frame _ _ _ st fun b _ o e => old b o e
  exact codeAny_compStart_list (loop _ rfl) (W.self 0 _ _ _ hst₁ (loop _ rfl))
inductive CSrcH (w : World) (A : Around) (env : Env) (scope : Scope) (cl : List (Str × Addr)) (elt target iter : Expr) (ifs : List Expr) (gs : List Comprehension) (pos : Pos) (J : Addr → Addr → Addr → List Value → Heap → Prop) (Q : Value → Shared → Prop) (xv : Value) (s₁ : Shared) : Prop
  | mk (n : Nat) (P : Nat → Value → Prop) (fs : List Addr) (src : Src w A xv s₁ n P fs)
    (loop : ∀ I fp St C D s₂, CIn w A s₁ n P I fp St C D [] s₂ → codeAny (model PG w) A (.compLoop (.ListComp elt (⟨target, iter, ifs, 0⟩ :: gs) scope pos) 0 (.ref I) (.ref D) (compEnvC scope cl C env)) (CFinH I C D (J I C D) s₂) s₂)
    (fin : ∀ I C D ys h s', J I C D ys h → (∀ b o, b ≠ C → h.get? b = some o → s'.heap.get? b = some o) → KB [] s₁ s' → s₁.heap.get? D = none → s'.heap.get? D = some (lsO ys) → Q (.ref D) s') : CSrcH w A env scope cl elt target iter ifs gs pos J Q xv s₁
theorem compEH {J : Addr → Addr → Addr → List Value → Heap → Prop} {Q : Value → Shared → Prop} (hclos : closureFor scope env = pure cl) (hcell : ∀ y ∈ scope.names, y.2 ≠ .cell) (hkind : scope.kind = .function) (hnames : ∀ y ∈ scope.names, y.2 = .local → scope.names.lookup y.1 = some .local)
    (hs : ∀ x, foldedSetIterable iter env x = pure x)
    (h : wpAny (model PG w) A (eval iter env) (CSrcH w A env scope cl elt target iter ifs gs pos J Q) E s) :
    wpAny (model PG w) A (eval (.ListComp elt (⟨target, iter, ifs, 0⟩ :: gs) scope pos) env) Q E s := by
  rw [eval_ListComp]
  refine comp_anyH (J := J) (use := none) hclos hcell hkind hnames hs (wpAny_mono h (fun xv s₁ h₁ => ?_) fun _ _ x => x)
  obtain ⟨n, P, fs, hsrc, hloop, hfin⟩ := h₁
  refine ⟨n, P, fs, hsrc, hloop, fun I C D ys s' fI fC fD hCD hJ kb ⟨mc, ns⟩ d => ⟨mc, ns, fun h' hs' => ?_⟩⟩
  refine hfin I C D ys s'.heap _ hJ (fun b o hb e => hs'.extBut b o hb e) (kb.fresh (KB.same hs') fun z hz => by rw [List.mem_singleton.mp hz]; exact fC) fD ?_
  exact hs'.extBut _ _ (Ne.symm hCD) d

end
section
variable {g : Heap} {L : Addr} {s₀ s s' : Shared} {m : Str → Option Value} {mu imm : List (Addr × Obj)}
theorem LS.addL {tl : List (Addr × Obj)} (y : LS g L s₀ m mu imm s) (k : KB [] s s') : (∀ p ∈ tl, s.heap.get? p.1 = none ∧ s'.heap.get? p.1 = some p.2) → LS g L s₀ m mu (tl ++ imm) s' := by
  induction tl with
  | nil => exact fun _ => y.kb k
  | cons q r ih =>
    intro h
    have y1 := ih fun p hp => h p (.tail _ hp)
    obtain ⟨y2, y3⟩ := y.st.add (h q (.head _)).1 k (h q (.head _)).2
    obtain ⟨h', tk, frs, rfl, sl, ok, F, N, off⟩ := y2
    obtain ⟨h1, tk1, frs1, e1, sl1, ok1, F1, N1, off1⟩ := y1.st
    cases sl
    cases sl1
    cases e1
    refine ⟨⟨h', tk, [], rfl, .nil, ok, F, fun p hp => ?_, fun p hp => by cases hp⟩, fun p hp hm => ?_, y.nod⟩
    · simp only [List.append_nil, List.mem_append, List.cons_append, List.mem_cons] at hp
      rcases hp with hp | rfl | hp | hp
      · exact N1 p (by simp [hp])
      · exact N _ (.head _)
      · exact N1 p (by simp [hp])
      · exact N1 p (by simp [hp])
    · rcases List.mem_cons.mp hp with rfl | hp
      · obtain ⟨z, hz, e⟩ := List.mem_map.mp hm
        exact y3 z (List.mem_append_left _ hz) e
      · exact y1.off p hp hm
end
section
variable {w : World} {A : Around} {s : Shared}
theorem Src.rangeN {r : Addr} {n : Nat} {t u v : Tok} (hh : A.handled = none) (hr : IsRange s.heap r 0 (Int.ofNat n) 1 t u v) (hn : n < 1000) :
    Src w A (.ref r) s n (fun i v => ∃ t, v = .int (0 + (i : Int)) t) [] := by
  refine Src.range hh hr ?_ ?_
  · exact small_one (by decide) (by decide) (by show -(2 ^ 62 : Int) ≤ (n : Int); omega) (by show (n : Int) < 2 ^ 62; omega)
  · rw [rangeSize_one]
    by_cases h : (0 : Int) < Int.ofNat n
    · rw [if_pos h]; simp
    · rw [if_neg h]
      have : n = 0 := by
        have : ¬ (0 : Int) < (n : Int) := h
        omega
      rw [this]; rfl
end
end Mine
end PartLw2

section PartPw1
theorem Mine.anewPw1 : True := by
  w_top off
  trivial
open PySem PySem.W PySem.Calls PyProof.Rows
set_option Elab.async false
set_option linter.all false
namespace Mine
theorem nat_of_perm {ns : List Int} {l : List Nat} (h : ns.Perm (nI l)) : ∃ l', ns = nI l' ∧ l'.Perm l := by
  have hn : ∀ x ∈ ns, Int.ofNat x.toNat = x := fun x hx => by
    obtain ⟨k, _, rfl⟩ := List.mem_map.mp (h.mem_iff.mp hx)
    rfl
  refine ⟨ns.map Int.toNat, ?_, ?_⟩
  · unfold nI
    rw [List.map_map]
    have : ns.map (Int.ofNat ∘ Int.toNat) = ns.map id := List.map_congr_left fun x hx => hn x hx
    rw [this, List.map_id]
  · have := h.map Int.toNat
    unfold nI at this
    rw [List.map_map, show (Int.toNat ∘ Int.ofNat) = id from rfl, List.map_id] at this
    exact this
theorem pair_nI {l : List Nat} (h : (nI l).Pairwise (· ≤ ·)) : l.Pairwise (· ≤ ·) := by
  unfold nI at h
  rw [List.pairwise_map] at h
  exact h.imp fun q => Int.ofNat_le.mp q
theorem nearL_snoc (l : List Step) (p : Step) (i : Nat) : nearL (l ++ [p]) i = nearL l i ++ (if p.1 = i then List.replicate p.2.2 p.2.1 else []) := by simp [nearL]
variable {sts : List Step} {rw' : Nat → Nat} {i : Nat} {far : Nat → Int}
theorem fm_congr {α β : Type} {f h : α → List β} : ∀ {l : List α}, (∀ p ∈ l, f p = h p) → l.flatMap f = l.flatMap h := by
  intro l
  induction l with
  | nil => intro _; rfl
  | cons x r ih => intro q; rw [List.flatMap_cons, List.flatMap_cons, q x (.head _), ih fun p hp => q p (.tail _ hp)]
theorem gs_ed (gs : GS sts rw') {a b : Nat} (e : Ed sts a b) : ∃ x y, x < y ∧ y < 5 ∧ a = rw' x ∧ b = rw' y := by
  obtain ⟨n, _, h⟩ := e
  obtain ⟨x, y, h1, h2, h3, h4, _⟩ := gs.st _ h
  exact ⟨x, y, h1, h2, h3, h4⟩
theorem gs_rk (gs : GS sts rw') : ∃ rk : Nat → Nat, (∀ n, rk n < 5) ∧ ∀ k < 5, rk (rw' k) = k := by
  refine ⟨fun n => ((List.range 5).find? fun k => rw' k == n).getD 0, fun n => ?_, fun k hk => ?_⟩
  · show (Option.getD _ 0) < 5
    cases q : (List.range 5).find? fun k => rw' k == n with
    | none => decide
    | some k => exact List.mem_range.mp (List.mem_of_find?_eq_some q)
  · show (Option.getD _ 0) = k
    cases q : (List.range 5).find? fun k' => rw' k' == rw' k with
    | none =>
      have := List.find?_eq_none.mp q k (List.mem_range.mpr hk)
      simp at this
    | some k' =>
      have h1 := List.mem_range.mp (List.mem_of_find?_eq_some q)
      have h2 := List.find?_some q
      exact gs.inj k' h1 k hk (by simpa using h2)
theorem rk_ed (gs : GS sts rw') {rk : Nat → Nat} (h : ∀ k < 5, rk (rw' k) = k) {a b : Nat} (e : Ed sts a b) : rk a < rk b := by
  obtain ⟨x, y, h1, h2, rfl, rfl⟩ := gs_ed gs e
  rw [h x (by omega), h y h2]; exact h1
theorem rk_beh (gs : GS sts rw') {rk : Nat → Nat} (h : ∀ k < 5, rk (rw' k) = k) {a b : Nat} (w : Beh sts a b) : rk a < rk b := by
  induction w with
  | one e => exact rk_ed gs h e
  | more _ e ih => exact Nat.lt_trans ih (rk_ed gs h e)
theorem pl_rk (gs : GS sts rw') : ∃ rk : Nat → Nat, ∀ a b, Ed sts a b → rk a < rk b := by
  obtain ⟨rk, _, h⟩ := gs_rk gs
  exact ⟨rk, fun a b e => rk_ed gs h e⟩
theorem Beh.trans {a b c : Nat} (x : Beh sts a b) (y : Beh sts b c) : Beh sts a c := by
  induction y with
  | one e => exact .more x e
  | more _ e ih => exact .more ih e
theorem Beh.front {a b : Nat} (x : Beh sts a b) : ∃ c, Ed sts a c ∧ (c = b ∨ Beh sts c b) := by
  induction x with
  | one e => exact ⟨_, e, .inl rfl⟩
  | more _ e ih =>
    obtain ⟨c, h1, h2⟩ := ih
    refine ⟨c, h1, .inr ?_⟩
    rcases h2 with rfl | h2
    · exact .one e
    · exact .more h2 e
/-- what far says -/
structure FP (sts : List Step) (i : Nat) (far : Nat → Int) : Prop where
  up : ∀ a j, Ed sts a j → far a > -1 → far a + 1 ≤ far j
  dn : ∀ j, far j = (if j = i then 0 else -1) ∨ ∃ a, Ed sts a j ∧ far a > -1 ∧ far j = far a + 1
  ge : ∀ j, (if j = i then 0 else -1) ≤ far j
theorem farT_mem {name : Nat} {v : Int} : v ∈ farT sts far name ↔ ∃ p ∈ sts, p.2.1 = name ∧ far p.1 > -1 ∧ v = far p.1 + 1 := by
  unfold farT
  rw [List.mem_flatMap]
  constructor
  · rintro ⟨p, hp, h⟩
    split at h
    · rename_i c
      exact ⟨p, hp, c.1, c.2, List.mem_singleton.mp h⟩
    · cases h
  · rintro ⟨p, hp, h1, h2, h3⟩
    exact ⟨p, hp, by rw [if_pos ⟨h1, h2⟩]; exact List.mem_singleton.mpr h3⟩
theorem far_inv (gs : GS sts rw') {k : Nat} (hk : k ≤ 5) (hf : FarR sts i rw' k far) :
    (∀ x < k, isMax (far (rw' x)) ((if rw' x = i then 0 else -1) :: farT sts far (rw' x))) ∧ ∀ j, (∀ x < k, j ≠ rw' x) → far j = (if j = i then 0 else -1) := by
  induction hf with
  | zero => exact ⟨fun x hx => absurd hx (Nat.not_lt_zero _), fun j _ => rfl⟩
  | @next k far M hf hM ih =>
    obtain ⟨h1, h2⟩ := ih (by omega)
    have hnew : far (rw' k) = (if rw' k = i then 0 else -1) := h2 _ fun x hx e => by
      have := gs.inj k (by omega) x (by omega) e
      omega
    have hT : ∀ x ≤ k, farT sts (fun j => if j = rw' k then M else far j) (rw' x) = farT sts far (rw' x) := by
      intro x hx
      unfold farT
      refine fm_congr ?_
      intro p hp
      by_cases hp2 : p.2.1 = rw' x
      · obtain ⟨a, b, q1, q2, q3, q4, _⟩ := gs.st p hp
        have hb : b = x := gs.inj b q2 x (by omega) (q4.symm.trans hp2)
        have hne : p.1 ≠ rw' k := fun e => by
          have := gs.inj a (by omega) k (by omega) (q3.symm.trans e)
          omega
        simp only [if_neg hne]
      · rw [if_neg fun q => hp2 q.1, if_neg fun q => hp2 q.1]
    refine ⟨fun x hx => ?_, fun j hj => ?_⟩
    · rw [hT x (by omega)]
      by_cases hxk : x = k
      · subst hxk
        show isMax (if rw' x = rw' x then M else far (rw' x)) _
        rw [if_pos rfl, ← hnew]
        exact hM
      · have hne : rw' x ≠ rw' k := fun e => hxk (gs.inj x (by omega) k (by omega) e)
        show isMax (if rw' x = rw' k then M else far (rw' x)) _
        rw [if_neg hne]
        exact h1 x (by omega)
    · show (if j = rw' k then M else far j) = _
      rw [if_neg (hj k (by omega))]
      exact h2 j fun x hx => hj x (by omega)
theorem far_fp (gs : GS sts rw') (hf : FarR sts i rw' 5 far) : FP sts i far := by
  obtain ⟨h1, h2⟩ := far_inv gs (Nat.le_refl _) hf
  refine ⟨fun a j e ha => ?_, fun j => ?_, fun j => ?_⟩
  · obtain ⟨n, hn, hm⟩ := e
    obtain ⟨x, y, _, hy, _, rfl⟩ := gs_ed gs ⟨n, hn, hm⟩
    exact (h1 y hy).2 _ (.tail _ (farT_mem.mpr ⟨_, hm, rfl, ha, rfl⟩))
  · by_cases hj : ∃ x < 5, j = rw' x
    · obtain ⟨x, hx, rfl⟩ := hj
      rcases List.mem_cons.mp (h1 x hx).1 with e | e
      · exact .inl e
      · obtain ⟨p, hp, q1, q2, q3⟩ := farT_mem.mp e
        obtain ⟨a, b, r1, r2, r3, r4, r5, r6⟩ := gs.st p hp
        refine .inr ⟨p.1, ⟨p.2.2, r5, ?_⟩, q2, q3⟩
        rw [← q1]; exact hp
    · exact .inl (h2 j fun x hx e => hj ⟨x, hx, e⟩)
  · by_cases hj : ∃ x < 5, j = rw' x
    · obtain ⟨x, hx, rfl⟩ := hj
      exact (h1 x hx).2 _ (.head _)
    · exact Int.le_of_eq (h2 j fun x hx e => hj ⟨x, hx, e⟩).symm
theorem far_ge0 (gs : GS sts rw') (f : FP sts i far) : ∀ j, far j > -1 → j = i ∨ Beh sts i j := by
  obtain ⟨rk, _, hrk⟩ := gs_rk gs
  have key : ∀ n j, rk j ≤ n → far j > -1 → j = i ∨ Beh sts i j := by
    intro n
    induction n with
    | zero =>
      intro j hj h
      rcases f.dn j with e | ⟨a, e, _⟩
      · split at e
        · rename_i c; exact .inl c
        · omega
      · have := rk_ed gs hrk e; omega
    | succ n ih =>
      intro j hj h
      rcases f.dn j with e | ⟨a, e, ha, _⟩
      · split at e
        · rename_i c; exact .inl c
        · omega
      · have := rk_ed gs hrk e
        rcases ih a (by omega) ha with rfl | w
        · exact .inr (.one e)
        · exact .inr (.more w e)
  exact fun j => key _ j (Nat.le_refl _)
theorem far_up (f : FP sts i far) {c j : Nat} (w : Beh sts c j) (hc : far c > -1) : far c + 1 ≤ far j := by
  induction w with
  | one e => exact f.up _ _ e hc
  | more _ e ih => have := f.up _ _ e (by omega); omega
theorem far_beh (gs : GS sts rw') (f : FP sts i far) (j : Nat) : far j > 0 ↔ Beh sts i j := by
  constructor
  · intro h
    rcases f.dn j with e | ⟨a, e, ha, _⟩
    · split at e <;> omega
    · rcases far_ge0 gs f a ha with rfl | w
      · exact .one e
      · exact .more w e
  · intro w
    have h0 := f.ge i
    rw [if_pos rfl] at h0
    have := far_up f w (by omega)
    omega
theorem far_two (gs : GS sts rw') (f : FP sts i far) (j : Nat) : far j > 1 ↔ ∃ c, Beh sts i c ∧ Beh sts c j := by
  constructor
  · intro h
    rcases f.dn j with e | ⟨a, e, ha, q⟩
    · split at e <;> omega
    · exact ⟨a, (far_beh gs f a).mp (by omega), .one e⟩
  · rintro ⟨c, h1, h2⟩
    have h3 := (far_beh gs f c).mpr h1
    have := far_up f h2 (by omega)
    omega
end Mine
end PartPw1

section PartPw2
theorem Mine.anewPw2 : True := by
  w_top off
  trivial
open PySem PySem.W PySem.Calls PyProof.Rows
set_option Elab.async false
set_option linter.all false
namespace Mine
section
variable {α : Type} [DecidableEq α]
open Classical in
/-- those of a list that P lets through, each once unless Q lets all through -/
noncomputable def kr (P Q : α → Prop) : List α → List α → List α
  | _, [] => []
  | seen, x :: r => if P x ∧ (x ∉ seen ∨ Q x) then x :: kr P Q (x :: seen) r else kr P Q (x :: seen) r
theorem kr_yes {P Q : α → Prop} {s r : List α} {x : α} (c : P x ∧ (x ∉ s ∨ Q x)) : kr P Q s (x :: r) = x :: kr P Q (x :: s) r := by
  rw [kr]; exact if_pos c
theorem kr_no {P Q : α → Prop} {s r : List α} {x : α} (c : ¬ (P x ∧ (x ∉ s ∨ Q x))) : kr P Q s (x :: r) = kr P Q (x :: s) r := by
  rw [kr]; exact if_neg c
theorem kr_congr {P Q P' Q' : α → Prop} {l : List α} : ∀ {s s' : List α}, (∀ x ∈ l, (P x ↔ P' x)) → (∀ x ∈ l, (Q x ↔ Q' x)) → (∀ x ∈ l, (x ∈ s ↔ x ∈ s')) → kr P Q s l = kr P' Q' s' l := by
  induction l with
  | nil => intros; rfl
  | cons x r ih =>
    intro s s' h1 h2 h3
    have ih' := ih (s := x :: s) (s' := x :: s') (fun z hz => h1 z (.tail _ hz)) (fun z hz => h2 z (.tail _ hz)) (fun z hz => by rw [List.mem_cons, List.mem_cons, h3 z (.tail _ hz)])
    have e : (P x ∧ (x ∉ s ∨ Q x)) ↔ (P' x ∧ (x ∉ s' ∨ Q' x)) := by rw [h1 x (.head _), h2 x (.head _), h3 x (.head _)]
    by_cases c : P x ∧ (x ∉ s ∨ Q x)
    · rw [kr_yes c, kr_yes (e.mp c), ih']
    · rw [kr_no c, kr_no (fun q => c (e.mpr q)), ih']
theorem kr_drop {P Q : α → Prop} {x : α} {l : List α} : ∀ {s : List α}, x ∈ s → ¬ (P x ∧ Q x) → kr P Q s l = kr P Q s (l.dropWhile (· == x)) := by
  induction l with
  | nil => intros; rfl
  | cons y r ih =>
    intro s hs hn
    by_cases hy : y = x
    · subst hy
      rw [List.dropWhile_cons, if_pos (by simp), ← ih hs hn]
      rw [kr_no (fun q => q.2.elim (fun z => z hs) fun z => hn ⟨q.1, z⟩)]
      exact kr_congr (fun _ _ => Iff.rfl) (fun _ _ => Iff.rfl) fun z _ => by
        rw [List.mem_cons]
        exact ⟨fun q => q.elim (fun e => e ▸ hs) id, .inr⟩
    · rw [List.dropWhile_cons, if_neg (by simpa using hy)]
theorem kr_all {P Q : α → Prop} {l : List α} : ∀ {s : List α}, (∀ x ∈ l, P x ∧ Q x) → kr P Q s l = l := by
  induction l with
  | nil => intros; rfl
  | cons y r ih =>
    intro s h
    rw [kr_yes ⟨(h y (.head _)).1, .inr (h y (.head _)).2⟩, ih fun x hx => h x (.tail _ hx)]
theorem kr_none {P Q : α → Prop} {l : List α} : ∀ {s : List α}, (∀ x ∈ l, ¬ P x) → kr P Q s l = [] := by
  induction l with
  | nil => intros; rfl
  | cons y r ih =>
    intro s h
    rw [kr_no (fun q => h y (.head _) q.1), ih fun x hx => h x (.tail _ hx)]
open Classical in
theorem kr_nodup {P Q : α → Prop} {l : List α} : ∀ {s : List α}, l.Nodup → (∀ x ∈ l, x ∉ s) → kr P Q s l = l.filter (fun x => decide (P x)) := by
  induction l with
  | nil => intros; rfl
  | cons y r ih =>
    intro s hn h
    rw [List.nodup_cons] at hn
    have e := ih (s := y :: s) hn.2 fun x hx hm => (List.mem_cons.mp hm).elim (fun q => hn.1 (q ▸ hx)) (h x (.tail _ hx))
    by_cases c : P y
    · rw [kr_yes ⟨c, .inl (h y (.head _))⟩, List.filter_cons, if_pos (by simpa using c), e]
    · rw [kr_no (fun q => c q.1), List.filter_cons, if_neg (by simpa using c), e]
theorem kr_sub {P Q : α → Prop} {l : List α} {z : α} : ∀ {s : List α}, z ∈ kr P Q s l → z ∈ l ∧ P z := by
  induction l with
  | nil => intro s h; cases h
  | cons y r ih =>
    intro s h
    by_cases c : P y ∧ (y ∉ s ∨ Q y)
    · rw [kr_yes c] at h
      rcases List.mem_cons.mp h with rfl | h'
      · exact ⟨.head _, c.1⟩
      · exact ⟨.tail _ (ih h').1, (ih h').2⟩
    · rw [kr_no c] at h
      exact ⟨.tail _ (ih h).1, (ih h).2⟩
theorem kr_mem {P Q : α → Prop} {l : List α} {z : α} (hP : P z) : ∀ {s : List α}, z ∉ s → z ∈ l → z ∈ kr P Q s l := by
  induction l with
  | nil => intro s _ h; cases h
  | cons y r ih =>
    intro s hs h
    by_cases hy : z = y
    · subst hy
      rw [kr_yes ⟨hP, .inl hs⟩]; exact .head _
    · have h2 := ih (s := y :: s) (fun q => (List.mem_cons.mp q).elim hy hs) ((List.mem_cons.mp h).resolve_left hy)
      by_cases c : P y ∧ (y ∉ s ∨ Q y)
      · rw [kr_yes c]; exact .tail _ h2
      · rw [kr_no c]; exact h2
end
theorem kr_map {P Q : Nat → Prop} {P' Q' : Int → Prop} {l : List Nat} : ∀ {s : List Nat}, (∀ x ∈ l, (P x ↔ P' (Int.ofNat x))) → (∀ x ∈ l, (Q x ↔ Q' (Int.ofNat x))) → nI (kr P Q s l) = kr P' Q' (nI s) (nI l) := by
  induction l with
  | nil => intros; rfl
  | cons x r ih =>
    intro s h1 h2
    have e := ih (s := x :: s) (fun z hz => h1 z (.tail _ hz)) (fun z hz => h2 z (.tail _ hz))
    show _ = kr P' Q' (nI s) (Int.ofNat x :: nI r)
    have hm : x ∈ s ↔ Int.ofNat x ∈ nI s := ⟨List.mem_map_of_mem, fun q => by
      obtain ⟨y, hy, e⟩ := List.mem_map.mp q
      exact Int.ofNat.inj e ▸ hy⟩
    have c' : (P x ∧ (x ∉ s ∨ Q x)) ↔ (P' (Int.ofNat x) ∧ (Int.ofNat x ∉ nI s ∨ Q' (Int.ofNat x))) := by rw [h1 x (.head _), h2 x (.head _), hm]
    by_cases c : P x ∧ (x ∉ s ∨ Q x)
    · rw [kr_yes c, kr_yes (c'.mp c)]
      show Int.ofNat x :: nI _ = _
      rw [e]; rfl
    · rw [kr_no c, kr_no (fun q => c (c'.mpr q)), e]; rfl
theorem kr_idx {P Q : Nat → Prop} [DecidablePred P] [DecidablePred Q] (r : List Nat) : ∀ (pre : List Nat),
    ((List.range r.length).flatMap fun k => if P ((pre ++ r).getD (pre.length + k) 0) ∧ ((pre ++ r).idxOf ((pre ++ r).getD (pre.length + k) 0) = pre.length + k ∨ Q ((pre ++ r).getD (pre.length + k) 0)) then [(pre ++ r).getD (pre.length + k) 0] else []) = kr P Q pre r := by
  induction r with
  | nil => intro pre; rfl
  | cons x r ih =>
    intro pre
    have e := ih (pre ++ [x])
    have g0 : (pre ++ x :: r).getD (pre.length + 0) 0 = x := by simp [List.getD]
    rw [List.length_cons, List.range_succ_eq_map, List.flatMap_cons, List.flatMap_map, g0]
    have hi : (pre ++ x :: r).idxOf x = pre.length + 0 ↔ x ∉ pre := by
      rw [List.idxOf_append]
      by_cases h : x ∈ pre
      · rw [if_pos h]
        have := List.idxOf_lt_length_iff.mpr h
        exact ⟨fun q => by omega, fun q => absurd h q⟩
      · rw [if_neg h]; simp [h]
    have tail : ((List.range r.length).flatMap fun a => if P ((pre ++ x :: r).getD (pre.length + a.succ) 0) ∧ ((pre ++ x :: r).idxOf ((pre ++ x :: r).getD (pre.length + a.succ) 0) = pre.length + a.succ ∨ Q ((pre ++ x :: r).getD (pre.length + a.succ) 0)) then [(pre ++ x :: r).getD (pre.length + a.succ) 0] else []) = kr P Q (x :: pre) r := by
      rw [show kr P Q (x :: pre) r = kr P Q (pre ++ [x]) r from kr_congr (fun _ _ => Iff.rfl) (fun _ _ => Iff.rfl) fun z _ => by simp [or_comm], ← e]
      refine fm_congr fun k _ => ?_
      rw [show pre ++ [x] ++ r = pre ++ x :: r by simp, show (pre ++ [x]).length + k = pre.length + k.succ by simp; omega]
    rw [tail]
    by_cases c : P x ∧ (x ∉ pre ∨ Q x)
    · rw [kr_yes c, if_pos ⟨c.1, c.2.imp hi.mpr id⟩]; rfl
    · rw [kr_no c, if_neg fun q => c ⟨q.1, q.2.imp hi.mp id⟩]; rfl
theorem drop_gt {x : Int} {xs : List Int} (h : (x :: xs).Pairwise (· ≤ ·)) : ∀ z ∈ xs.dropWhile (· == x), x < z := by
  induction xs with
  | nil => intro z hz; cases hz
  | cons y r ih =>
    rw [List.pairwise_cons, List.pairwise_cons] at h
    intro z hz
    rw [List.dropWhile_cons] at hz
    split at hz
    · exact ih (List.pairwise_cons.mpr ⟨fun a ha => h.1 a (.tail _ ha), h.2.2⟩) z hz
    · rename_i c
      have hxy := h.1 y (.head _)
      have hne : y ≠ x := by simpa using c
      rcases List.mem_cons.mp hz with rfl | hz
      · omega
      · have := h.2.1 z hz; omega
theorem drop_mem {x z : Int} (hz : z ≠ x) (xs : List Int) : z ∈ xs ↔ z ∈ xs.dropWhile (· == x) := by
  induction xs with
  | nil => rfl
  | cons y r ih =>
    rw [List.dropWhile_cons]
    split
    · rename_i c
      have : y = x := by simpa using c
      rw [← ih, List.mem_cons]
      exact ⟨fun q => q.resolve_left fun e => hz (e.trans this), .inr⟩
    · rfl
theorem drop_pw {x : Int} {xs : List Int} (h : xs.Pairwise (· ≤ ·)) : (xs.dropWhile (· == x)).Pairwise (· ≤ ·) := h.sublist (List.dropWhile_suffix _).sublist
noncomputable abbrev krI (xs ys : List Int) : List Int := kr (fun x => x ∉ ys) (fun x => ∀ o ∈ ys, o < x) [] xs
theorem krI_other {x : Int} {xs ys : List Int} (h : ∀ z ∈ ys, x < z) : krI ys (x :: xs) = krI ys (xs.dropWhile (· == x)) := by
  refine kr_congr (fun z hz => ?_) (fun z hz => ?_) fun _ _ => Iff.rfl
  · have hne : z ≠ x := by have := h z hz; omega
    rw [List.mem_cons, ← drop_mem hne]
    exact ⟨fun q w => q (.inr w), fun q w => w.elim hne q⟩
  · have hlt := h z hz
    constructor
    · intro q o ho
      exact q o (.tail _ ((List.dropWhile_suffix _).subset ho))
    · intro q o ho
      by_cases e : o = x
      · omega
      · exact q o ((drop_mem e xs).mp ((List.mem_cons.mp ho).resolve_left e))
theorem krI_first {x y : Int} {xs ys : List Int} (hx : (x :: xs).Pairwise (· ≤ ·)) (hxy : x < y) (hy : (y :: ys).Pairwise (· ≤ ·)) : krI (x :: xs) (y :: ys) = x :: krI (xs.dropWhile (· == x)) (y :: ys) := by
  have hn : x ∉ y :: ys := fun q => by
    rcases List.mem_cons.mp q with e | q
    · omega
    · have := (List.pairwise_cons.mp hy).1 x q; omega
  show kr _ _ [] (x :: xs) = _
  rw [kr_yes (P := fun x => x ∉ y :: ys) ⟨hn, .inl (by simp)⟩, kr_drop (P := fun x => x ∉ y :: ys) (Q := fun x => ∀ o ∈ y :: ys, o < x) (x := x) (s := [x]) (.head _) (fun q => by have := q.2 y (.head _); omega)]
  congr 1
  refine kr_congr (fun _ _ => Iff.rfl) (fun _ _ => Iff.rfl) fun z hz => ?_
  have := drop_gt hx z hz
  simp; omega
theorem krI_same {x : Int} {xs ys : List Int} (hx : (x :: xs).Pairwise (· ≤ ·)) : krI (x :: xs) (x :: ys) = krI (xs.dropWhile (· == x)) (ys.dropWhile (· == x)) := by
  rw [← krI_other (x := x) (drop_gt hx)]
  show kr _ _ [] (x :: xs) = _
  rw [kr_no (P := fun z => z ∉ x :: ys) (fun q => q.1 (.head _)), kr_drop (P := fun z => z ∉ x :: ys) (Q := fun z => ∀ o ∈ x :: ys, o < z) (x := x) (s := [x]) (.head _) (fun q => q.1 (.head _))]
  refine kr_congr (fun _ _ => Iff.rfl) (fun _ _ => Iff.rfl) fun z hz => ?_
  have := drop_gt hx z hz
  simp; omega
theorem sld_kr : ∀ (n : Nat) (xs ys : List Int), xs.length + ys.length ≤ n → xs.Pairwise (· ≤ ·) → ys.Pairwise (· ≤ ·) → sldP xs ys = (krI xs ys, krI ys xs) := by
  intro n
  induction n with
  | zero =>
    intro xs ys h _ _
    have h1 : xs = [] := List.length_eq_zero_iff.mp (by omega)
    have h2 : ys = [] := List.length_eq_zero_iff.mp (by omega)
    subst h1 h2
    rw [sldP]; rfl
  | succ n ih =>
    intro xs ys h hx hy
    match xs, ys with
    | [], ys =>
      have e : krI ys [] = ys := kr_all fun x _ => ⟨List.not_mem_nil, fun o ho => by cases ho⟩
      rw [sldP, e]; rfl
    | x :: xs, [] =>
      have e : krI (x :: xs) [] = x :: xs := kr_all fun x _ => ⟨List.not_mem_nil, fun o ho => by cases ho⟩
      rw [sldP, e]; rfl
    | x :: xs, y :: ys =>
      have l1 := (List.dropWhile_suffix (fun z => z == x) (l := xs)).length_le
      have l2 := (List.dropWhile_suffix (fun z => z == y) (l := ys)).length_le
      simp only [List.length_cons] at h
      rw [sldP]
      by_cases c1 : x < y
      · rw [if_pos c1, ih _ _ (by simp only [List.length_cons]; omega) (drop_pw (List.pairwise_cons.mp hx).2) hy, krI_first hx c1 hy, krI_other (x := x) (ys := y :: ys) (fun z hz => by
          rcases List.mem_cons.mp hz with rfl | hz
          · exact c1
          · have := (List.pairwise_cons.mp hy).1 z hz; omega)]
      · rw [if_neg c1]
        by_cases c2 : y < x
        · rw [if_pos c2, ih _ _ (by simp only [List.length_cons]; omega) hx (drop_pw (List.pairwise_cons.mp hy).2), krI_first hy c2 hx, krI_other (x := y) (ys := x :: xs) (fun z hz => by
            rcases List.mem_cons.mp hz with rfl | hz
            · exact c2
            · have := (List.pairwise_cons.mp hx).1 z hz; omega)]
        · have e : x = y := by omega
          subst e
          rw [if_neg c2, ih _ _ (by omega) (drop_pw (List.pairwise_cons.mp hx).2) (drop_pw (List.pairwise_cons.mp hy).2), krI_same hx, krI_same hy]
end Mine
end PartPw2

section PartPv1
theorem Mine.anewPv1 : True := by
  w_top off
  trivial
open PySem PySem.W PySem.Calls PyProof.Rows
set_option Elab.async false
set_option linter.all false
namespace Mine
variable {sts : List Step} {rw' : Nat → Nat} {i : Nat} {far : Nat → Int}
theorem bhL_mem {i j : Nat} : j ∈ bhL sts i ↔ j < 5 ∧ Beh sts i j := by
  classical
  unfold bhL
  rw [List.mem_filter, List.mem_range, decide_eq_true_iff]
theorem gs_beh_lt (gs : GS sts rw') {a b : Nat} (w : Beh sts a b) : a < 5 ∧ b < 5 := by
  have hed : ∀ a b, Ed sts a b → a < 5 ∧ b < 5 := fun a b e => by
    obtain ⟨x, y, h1, h2, rfl, rfl⟩ := gs_ed gs e
    exact ⟨gs.lt x (by omega), gs.lt y h2⟩
  induction w with
  | one e => exact hed _ _ e
  | more _ e ih => exact ⟨ih.1, (hed _ _ e).2⟩
theorem near_mem (gs : GS sts rw') {i l : Nat} : l ∈ nearL sts i ↔ Ed sts i l := by
  unfold nearL Ed
  rw [List.mem_flatMap]
  constructor
  · rintro ⟨p, hp, h⟩
    split at h
    · rename_i c
      obtain ⟨a, b, q1, q2, q3, q4, q5, q6⟩ := gs.st p hp
      have e := (List.mem_replicate.mp h).2
      refine ⟨p.2.2, q5, ?_⟩
      rw [← c, e]; exact hp
    · cases h
  · rintro ⟨n, hn, hm⟩
    exact ⟨_, hm, by rw [if_pos rfl]; exact List.mem_replicate.mpr ⟨by show n ≠ 0; omega, rfl⟩⟩
/-- sorted, each once, just those below five that P lets through -/
theorem filt_eq {ns : List Int} {out : List Nat} {P : Nat → Bool} (hp : ns.Perm (out.map Int.ofNat)) (hw : ns.Pairwise (· ≤ ·)) (hn : out.Nodup) (hm : ∀ j, j ∈ out ↔ j < 5 ∧ P j = true) : ns = nI ((List.range 5).filter P) := by
  obtain ⟨l', rfl, hp'⟩ := nat_of_perm (l := out) hp
  have hw' := pair_nI hw
  congr 1
  have hr : ((List.range 5).filter P).Pairwise (· ≤ ·) := (List.pairwise_lt_range.imp fun h => Nat.le_of_lt h).filter _
  refine List.Perm.eq_of_pairwise (le := fun a b : Nat => a ≤ b) (fun a b _ _ h1 h2 => Nat.le_antisymm h1 h2) hw' hr ?_
  refine (List.perm_ext_iff_of_nodup (hp'.nodup_iff.mpr hn) (List.nodup_range.filter _)).mpr fun a => ?_
  rw [hp'.mem_iff, hm, List.mem_filter, List.mem_range]
theorem pl_out {ns : List Int} (gs : GS sts rw') (hi : i < 5) (hf : FarR sts i rw' 5 far) (hp : ns.Perm ((runOut sts i).map Int.ofNat)) (hw : ns.Pairwise (· ≤ ·)) : ns = nI ((List.range 5).filter fun k => decide (far k < 1)) := by
  have f := far_fp gs hf
  obtain ⟨rk, h5, hrk⟩ := gs_rk gs
  obtain ⟨hn, hm⟩ := runOut_mem sts i (fun p hp => by
    obtain ⟨a, b, q1, q2, q3, q4, _⟩ := gs.st p hp
    rw [q3, q4]; exact ⟨gs.lt a (by omega), gs.lt b q2⟩) hi rk (fun p hp => by
    obtain ⟨a, b, q1, q2, q3, q4, _⟩ := gs.st p hp
    rw [q3, q4, hrk a (by omega), hrk b q2]; exact q1) (fun k _ => h5 k)
  refine filt_eq hp hw hn fun j => ?_
  rw [hm, ← far_beh gs f, decide_eq_true_iff]
  constructor
  · rintro ⟨a, b⟩; exact ⟨a, by omega⟩
  · rintro ⟨a, b⟩; exact ⟨a, by omega⟩
theorem nI_mem {l : List Nat} {x : Nat} : Int.ofNat x ∈ nI l ↔ x ∈ l := ⟨fun q => by
      obtain ⟨y, hy, e⟩ := List.mem_map.mp q
      exact Int.ofNat.inj e ▸ hy, List.mem_map_of_mem⟩
theorem nI_pair {l : List Nat} (h : l.Pairwise (· ≤ ·)) : (nI l).Pairwise (· ≤ ·) := by
  unfold nI
  rw [List.pairwise_map]
  exact h.imp fun q => Int.ofNat_le.mpr q
theorem nI_kr (near over : List Nat) : krI (nI near) (nI over) = nI (kr (fun x => x ∉ over) (fun x => ∀ o ∈ over, o < x) [] near) := by
  refine (kr_map (s := []) (fun x _ => ?_) (fun x _ => ?_)).symm
  · rw [nI_mem]
  · constructor
    · intro h o ho
      obtain ⟨y, hy, rfl⟩ := List.mem_map.mp ho
      exact Int.ofNat_lt.mpr (h y hy)
    · intro h o ho
      exact Int.ofNat_lt.mp (h _ (List.mem_map_of_mem ho))
theorem sld_nI {near over : List Nat} (h1 : near.Pairwise (· ≤ ·)) (h2 : over.Pairwise (· ≤ ·)) : sldP (nI near) (nI over) = (nI (kr (fun x => x ∉ over) (fun x => ∀ o ∈ over, o < x) [] near), nI (kr (fun x => x ∉ near) (fun x => ∀ o ∈ near, o < x) [] over)) := by
  rw [sld_kr _ _ _ (Nat.le_refl _) (nI_pair h1) (nI_pair h2), nI_kr, nI_kr]
theorem pl_told (far : Nat → Int) : sldP [0, 1, 2, 3, 4] (nI ((List.range 5).filter fun k => decide (far k < 1))) = (nI ((List.range 5).filter fun k => decide (far k > 0)), []) := by
  have hr : (List.range 5).Pairwise (· ≤ ·) := List.pairwise_lt_range.imp fun h => Nat.le_of_lt h
  rw [show ([0, 1, 2, 3, 4] : List Int) = nI (List.range 5) from rfl, sld_nI hr (hr.filter _)]
  have e2 : kr (fun x => x ∉ List.range 5) (fun x => ∀ o ∈ List.range 5, o < x) [] ((List.range 5).filter fun k => decide (far k < 1)) = [] := kr_none fun x hx q => q (List.mem_filter.mp hx).1
  rw [e2, kr_nodup List.nodup_range (fun x _ => List.not_mem_nil)]
  refine congrArg (fun z => (nI z, ([] : List Int))) ?_
  refine List.filter_congr fun x hx => ?_
  refine decide_eq_decide.mpr ?_
  rw [List.mem_filter, decide_eq_true_iff]
  constructor
  · intro q
    have : ¬ far x < 1 := fun w => q ⟨hx, w⟩
    omega
  · rintro q ⟨_, w⟩; omega
theorem pl_beh (gs : GS sts rw') (hi : i < 5) (hf : FarR sts i rw' 5 far) : (List.range 5).filter (fun k => decide (far k > 0)) = bhL sts i := by
  classical
  unfold bhL
  refine List.filter_congr fun x hx => ?_
  exact decide_eq_decide.mpr (far_beh gs (far_fp gs hf) x)
theorem near_len (l : List Step) (h : ∀ p ∈ l, p.2.2 ≤ 3) : ((List.range 5).flatMap (nearL l)).length ≤ 3 * l.length ∧ ∀ i, (nearL l i).length ≤ 3 * l.length := by
  induction l with
  | nil => exact ⟨by decide, fun i => by simp [nearL]⟩
  | cons p r ih =>
    obtain ⟨ih1, ih2⟩ := ih fun q hq => h q (.tail _ hq)
    have h3 := h p (.head _)
    have hl : ∀ i, (nearL (p :: r) i).length = (if p.1 = i then p.2.2 else 0) + (nearL r i).length := fun i => by
      unfold nearL
      rw [List.flatMap_cons, List.length_append]
      congr 1
      split <;> simp
    refine ⟨?_, fun i => ?_⟩
    · rw [List.length_flatMap] at ih1 ⊢
      simp only [show List.range 5 = [0, 1, 2, 3, 4] from rfl, List.map_cons, List.map_nil, List.sum_cons, List.sum_nil, hl, List.length_cons] at ih1 ⊢
      repeat' split
      all_goals omega
    · rw [hl, List.length_cons]
      have := ih2 i
      split <;> omega
theorem pl_near (gs : GS sts rw') : ((List.range 5).flatMap (nearL sts)).length ≤ 18 ∧ ∀ i < 5, (nearL sts i).length ≤ 18 := by
  obtain ⟨h1, h2⟩ := near_len sts fun p hp => by
    obtain ⟨a, b, _, _, _, _, _, q⟩ := gs.st p hp
    exact q
  have := gs.len
  exact ⟨by omega, fun i _ => by have := h2 i; omega⟩
theorem flat_len {l : List Nat} {f : Nat → List Nat} {n : Nat} (h : ∀ x ∈ l, (f x).length ≤ n) : (l.flatMap f).length ≤ n * l.length := by
  induction l with
  | nil => exact Nat.zero_le _
  | cons x r ih =>
    rw [List.flatMap_cons, List.length_append, List.length_cons, Nat.mul_succ]
    have := h x (.head _)
    have := ih fun y hy => h y (.tail _ hy)
    omega
theorem beh_row (gs : GS sts rw') {a b : Nat} (w : Beh sts a b) : ∃ y, y < 5 ∧ b = rw' y := by
  cases w with
  | one e => obtain ⟨x, y, _, h2, _, h4⟩ := gs_ed gs e; exact ⟨y, h2, h4⟩
  | more _ e => obtain ⟨x, y, _, h2, _, h4⟩ := gs_ed gs e; exact ⟨y, h2, h4⟩
theorem pl_over {near : List Nat} (gs : GS sts rw') (hi : i < 5) (hp : near.Perm (nearL sts i)) : (near.flatMap (bhL sts)).length < 64 := by
  obtain ⟨rk, _, hrk⟩ := gs_rk gs
  have h := flat_len (l := near) (f := bhL sts) (n := 3) fun x hx => by
    have he := (near_mem gs).mp (hp.mem_iff.mp hx)
    obtain ⟨a, b, q1, q2, q3, q4⟩ := gs_ed gs he
    have hnd : (bhL sts x).Nodup := by classical exact List.nodup_range.filter _
    refine List.Nodup.length_le_of_subset (l₂ := [rw' 2, rw' 3, rw' 4]) hnd fun j hj => ?_
    have w := (bhL_mem.mp hj).2
    have hlt := rk_beh gs hrk w
    obtain ⟨y, hy, rfl⟩ := beh_row gs w
    rw [q4, hrk b q2, hrk y hy] at hlt
    have : y = 2 ∨ y = 3 ∨ y = 4 := by omega
    rcases this with rfl | rfl | rfl <;> simp
  have h2 := (pl_near gs).2 i hi
  have h3 := hp.length_eq
  omega
theorem missL_kr (far : Nat → Int) (near over : List Nat) : missL far near over near.length = kr (fun x => far x = 1) (fun x => ∀ o ∈ over, o < x) [] near := by
  rw [← kr_idx (P := fun x => far x = 1) (Q := fun x => ∀ o ∈ over, o < x) near []]
  unfold missL
  simp only [List.nil_append, List.length_nil, Nat.zero_add]
theorem beyL_kr (near over : List Nat) : beyL near over over.length = kr (fun x => x ∉ near) (fun x => ∀ o ∈ near, o < x) [] over := by
  rw [← kr_idx (P := fun x => x ∉ near) (Q := fun x => ∀ o ∈ near, o < x) over []]
  unfold beyL
  simp only [List.nil_append, List.length_nil, Nat.zero_add]
theorem far_one (gs : GS sts rw') (f : FP sts i far) {x : Nat} (e : Ed sts i x) : far x = 1 ↔ ¬ ∃ c, Beh sts i c ∧ Beh sts c x := by
  rw [← far_two gs f]
  have := (far_beh gs f x).mpr (.one e)
  omega
theorem pl_sld {near over : List Nat} (gs : GS sts rw') (hi : i < 5) (hf : FarR sts i rw' 5 far) (hp : near.Perm (nearL sts i)) (hw : near.Pairwise (· ≤ ·)) (hp' : over.Perm (near.flatMap (bhL sts))) (hw' : over.Pairwise (· ≤ ·)) :
    sldP (nI near) (nI over) = (nI (missL far near over near.length), nI (beyL near over over.length)) := by
  rw [sld_nI hw hw', missL_kr, beyL_kr]
  congr 2
  refine kr_congr (fun x hx => ?_) (fun _ _ => Iff.rfl) fun _ _ => Iff.rfl
  have he := (near_mem gs).mp (hp.mem_iff.mp hx)
  rw [far_one gs (far_fp gs hf) he]
  refine not_congr ?_
  rw [hp'.mem_iff, List.mem_flatMap]
  constructor
  · rintro ⟨l, hl, hb⟩
    exact ⟨l, .one ((near_mem gs).mp (hp.mem_iff.mp hl)), (bhL_mem.mp hb).2⟩
  · rintro ⟨c, h1, h2⟩
    obtain ⟨d, h3, h4⟩ := h1.front
    refine ⟨d, hp.mem_iff.mpr ((near_mem gs).mpr h3), bhL_mem.mpr ⟨(gs_beh_lt gs h2).2, ?_⟩⟩
    rcases h4 with rfl | h4
    · exact h2
    · exact h4.trans h2
theorem kr_len {P Q : Nat → Prop} {l : List Nat} : ∀ {s : List Nat}, (kr P Q s l).length ≤ l.length := by
  induction l with
  | nil => intro s; exact Nat.le_refl _
  | cons x r ih =>
    intro s
    have := ih (s := x :: s)
    by_cases c : P x ∧ (x ∉ s ∨ Q x)
    · rw [kr_yes c, List.length_cons, List.length_cons]; omega
    · rw [kr_no c, List.length_cons]; omega
theorem miss_mem {near over : List Nat} (gs : GS sts rw') (hf : FarR sts i rw' 5 far) (hp : near.Perm (nearL sts i)) (l : Nat) : l ∈ missL far near over near.length ↔ Must sts i l := by
  rw [missL_kr]
  have f := far_fp gs hf
  constructor
  · intro h
    obtain ⟨h1, h2⟩ := kr_sub h
    have he := (near_mem gs).mp (hp.mem_iff.mp h1)
    exact ⟨he, (far_one gs f he).mp h2⟩
  · rintro ⟨he, h⟩
    exact kr_mem (P := fun x => far x = 1) (z := l) ((far_one gs f he).mpr h) List.not_mem_nil (hp.mem_iff.mpr ((near_mem gs).mpr he))
theorem pl_kp {near over : List Nat} {kept : List Step} (gs : GS sts rw') (hi : i < 5) (hf : FarR sts i rw' 5 far) (hp : near.Perm (nearL sts i)) (k : KP sts i kept) : KP sts (i + 1) (kept ++ (missL far near over near.length).map fun l => (i, l, 1)) := by
  refine ⟨fun p => ?_, ?_⟩
  · rw [List.mem_append, k.mem, List.mem_map]
    constructor
    · rintro (⟨h1, h2⟩ | ⟨l, h1, rfl⟩)
      · exact ⟨by omega, h2⟩
      · exact ⟨Nat.lt_succ_self _, rfl, (miss_mem gs hf hp l).mp h1⟩
    · rintro ⟨h1, h2, h3⟩
      by_cases e : p.1 < i
      · exact .inl ⟨e, h2, h3⟩
      · have e' : p.1 = i := by omega
        refine .inr ⟨p.2.1, (miss_mem gs hf hp _).mpr (e' ▸ h3), ?_⟩
        obtain ⟨a, b, c⟩ := p
        dsimp only at e' h2 ⊢
        rw [e', h2]
  · rw [List.length_append, List.length_map, List.range_succ, List.flatMap_append, List.length_append]
    have h1 := k.len
    have h2 : (missL far near over near.length).length ≤ near.length := by rw [missL_kr]; exact kr_len
    have h3 := hp.length_eq
    have h4 : ([i].flatMap (nearL sts)).length = (nearL sts i).length := by simp
    omega
theorem kept_beh {kept : List Step} (gs : GS sts rw') (k : KP sts 5 kept) (a b : Nat) : Beh kept a b ↔ Beh sts a b := by
  have hed : ∀ a b, Ed kept a b ↔ Must sts a b := fun a b => by
    constructor
    · rintro ⟨n, _, h⟩; exact ((k.mem _).mp h).2.2
    · intro h
      exact ⟨1, Nat.le_refl _, (k.mem _).mpr ⟨(gs_beh_lt gs (.one h.1)).1, rfl, h⟩⟩
  obtain ⟨rk, _, hrk⟩ := gs_rk gs
  constructor
  · intro w
    induction w with
    | one e => exact .one ((hed _ _).mp e).1
    | more _ e ih => exact .more ih ((hed _ _).mp e).1
  · have key : ∀ n a b, rk b - rk a ≤ n → Beh sts a b → Beh kept a b := by
      intro n
      induction n with
      | zero => intro a b h w; have := rk_beh gs hrk w; omega
      | succ n ih =>
        intro a b h w
        by_cases hc : ∃ c, Beh sts a c ∧ Beh sts c b
        · obtain ⟨c, h1, h2⟩ := hc
          have := rk_beh gs hrk h1
          have := rk_beh gs hrk h2
          exact (ih a c (by omega) h1).trans (ih c b (by omega) h2)
        · obtain ⟨d, h3, h4⟩ := w.front
          rcases h4 with rfl | h4
          · exact .one ((hed _ _).mpr ⟨h3, hc⟩)
          · exact absurd ⟨d, .one h3, h4⟩ hc
    exact key _ a b (Nat.le_refl _)
theorem pl_end {kept : List Step} {ns : List Int} (gs : GS sts rw') (hi : i < 5) (k : KP sts 5 kept) (hp : ns.Perm ((runOut kept i).map Int.ofNat)) (hw : ns.Pairwise (· ≤ ·)) : ns = nI ((List.range 5).filter fun k => decide (k ∉ bhL sts i)) := by
  obtain ⟨rk, h5, hrk⟩ := gs_rk gs
  obtain ⟨hn, hm⟩ := runOut_mem kept i (fun p hp => gs_beh_lt gs (.one ((k.mem p).mp hp).2.2.1)) hi rk (fun p hp => rk_ed gs hrk ((k.mem p).mp hp).2.2.1) (fun k _ => h5 k)
  refine filt_eq hp hw hn fun j => ?_
  rw [hm, kept_beh gs k, decide_eq_true_iff, bhL_mem]
  exact ⟨fun ⟨a, b⟩ => ⟨a, fun q => b q.2⟩, fun ⟨a, b⟩ => ⟨a, fun q => b ⟨a, q⟩⟩⟩
end Mine
end PartPv1

section PartLa
theorem Mine.anewLa : True := by
  w_top off
  trivial
open PySem PySem.W PySem.Calls PyProof.Rows
set_option Elab.async false
set_option maxRecDepth 100000
set_option maxHeartbeats 4000000
set_option linter.all false
namespace Mine
theorem fillLa : hd.heap_1 = hd.heap_1 ∧ PySem.Challenge.rw_mg0051_01 = PySem.Challenge.rw_mg0051_01 := by
  k_fill
  exact ⟨rfl, rfl⟩
noncomputable def rowF (q k : Nat) : Nat := (2 * k + q) % 5
noncomputable abbrev cellsL (L : Addr) (o6 o5 o4 o3 o2 o1 : Obj) : List (Addr × Obj) := [(L + 1 + 1 + 1 + 1 + 1 + 1, o6), (L + 1 + 1 + 1 + 1 + 1, o5), (L + 1 + 1 + 1 + 1, o4), (L + 1 + 1 + 1, o3), (L + 1 + 1, o2), (L + 1, o1)]
/-- what law's loops keep -/
structure LJ (B as ar : Addr) (sts : List Step) (rw' : Nat → Nat) (bvs : List Value) (i : Nat) (m : Str → Option Value) (imm : List (Addr × Obj)) (o6 o5 o4 o3 o2 : Obj) : Prop where
  d6 : ∃ v, o6.data = .cell v
  d5 : ∃ v, o5.data = .cell v
  d4 : ∃ v, o4.data = .cell v
  d3 : ∃ v, o3.data = .cell v
  d2 : o2.data = .cell (some (.ref B))
  ms : m (Str.ofString "steps") = some (.ref as)
  mr : m (Str.ofString "row") = some (.ref ar)
  hs : Hold imm (fun h => StepsAt h as sts)
  hr : Hold imm (fun h => ListAt h ar (([0, 1, 2, 3, 4] : List Nat).map fun k => Int.ofNat (rw' k)))
  bl : bvs.length = i
  bv : ∀ j < i, ∃ a, bvs[j]? = some (.ref a) ∧ Hold imm (fun h => ListAt h a (nI (bhL sts j)))
section
variable (g : Heap) (L : Addr) (s : Shared) (K B as ar : Addr) (sts : List Step) (rw' : Nat → Nat)
inductive LJ1 (i : Nat) (m : Str → Option Value) (mu imm : List (Addr × Obj)) : Prop
  | mk (o6 o5 o4 o3 o2 o1 : Obj) (bvs : List Value) (e : Nat) (h : mu = (B, listOf (List.toArray bvs) e) :: cellsL L o6 o5 o4 o3 o2 o1) (lj : LJ B as ar sts rw' bvs i m imm o6 o5 o4 o3 o2) : LJ1 i m mu imm
inductive LM1 (s' : Shared) : Prop
  | mk (m : Str → Option Value) (imm : List (Addr × Obj)) (o6 o5 o4 o3 o2 o1 : Obj) (bvs : List Value) (e : Nat) (Y : LS g L s m ((B, listOf (List.toArray bvs) e) :: cellsL L o6 o5 o4 o3 o2 o1) imm s') (lj : LJ B as ar sts rw' bvs 5 m imm o6 o5 o4 o3 o2) : LM1 s'
inductive LJ2 (i : Nat) (m : Str → Option Value) (mu imm : List (Addr × Obj)) : Prop
  | mk (o6 o5 o4 o3 o2 o1 : Obj) (bvs : List Value) (e : Nat) (kvs : List Value) (ek : Nat) (kept : List Step) (h : mu = (K, listOf (List.toArray kvs) ek) :: (B, listOf (List.toArray bvs) e) :: cellsL L o6 o5 o4 o3 o2 o1) (lj : LJ B as ar sts rw' bvs 5 m imm o6 o5 o4 o3 o2)
    (kp : KP sts i kept) (hk : Hold imm (fun h => StepsAre h kvs kept)) (mk : m (Str.ofString "kept") = some (.ref K)) : LJ2 i m mu imm
inductive LM2 (s' : Shared) : Prop
  | mk (m : Str → Option Value) (imm : List (Addr × Obj)) (o6 o5 o4 o3 o2 o1 : Obj) (bvs : List Value) (e : Nat) (kvs : List Value) (ek : Nat) (kept : List Step) (Y : LS g L s m ((K, listOf (List.toArray kvs) ek) :: (B, listOf (List.toArray bvs) e) :: cellsL L o6 o5 o4 o3 o2 o1) imm s') (lj : LJ B as ar sts rw' bvs 5 m imm o6 o5 o4 o3 o2)
    (kp : KP sts 5 kept) (hk : Hold imm (fun h => StepsAre h kvs kept)) (mk : m (Str.ofString "kept") = some (.ref K)) : LM2 s'
inductive LJ3 (bvs : List Value) (e : Nat) (kvs : List Value) (ek : Nat) (kept : List Step) (m : Str → Option Value) (mu imm : List (Addr × Obj)) : Prop
  | mk (o6 o5 o4 o3 o2 o1 : Obj) (h : mu = (K, listOf (List.toArray kvs) ek) :: (B, listOf (List.toArray bvs) e) :: cellsL L o6 o5 o4 o3 o2 o1) (lj : LJ B as ar sts rw' bvs 5 m imm o6 o5 o4 o3 o2)
    (hk : Hold imm (fun h => StepsAre h kvs kept)) (mk : m (Str.ofString "kept") = some (.ref K)) : LJ3 bvs e kvs ek kept m mu imm
end
section
variable {α : Type} {a b c d e f g h i x : α} {l : List α}
theorem mk0 : x ∈ x :: l := .head _
theorem mk1 : x ∈ a :: x :: l := .tail _ mk0
theorem mk2 : x ∈ a :: b :: x :: l := .tail _ mk1
theorem mk3 : x ∈ a :: b :: c :: x :: l := .tail _ mk2
theorem mk4 : x ∈ a :: b :: c :: d :: x :: l := .tail _ mk3
theorem mk5 : x ∈ a :: b :: c :: d :: e :: x :: l := .tail _ mk4
theorem mk6 : x ∈ a :: b :: c :: d :: e :: f :: x :: l := .tail _ mk5
theorem mk7 : x ∈ a :: b :: c :: d :: e :: f :: g :: x :: l := .tail _ mk6
theorem mk8 : x ∈ a :: b :: c :: d :: e :: f :: g :: h :: x :: l := .tail _ mk7
end
theorem star_list {elts : List Expr} {p : Pos} {rest : List Expr} {env : Env} : starEach (.List elts p :: rest) env = (false, eval (.List elts p) env) :: starEach rest env := rfl
theorem filt_snoc (P : Nat → Bool) (j : Nat) : (List.range (j + 1)).filter P = (List.range j).filter P ++ (if P j = true then [j] else []) := by
  rw [List.range_succ, List.filter_append]
  by_cases h : P j = true
  · simp [h]
  · simp [h]
theorem filt_len (P : Nat → Bool) (j : Nat) : ((List.range j).filter P).length ≤ j := by
  have := List.length_filter_le P (List.range j)
  rw [List.length_range] at this; exact this
theorem nI_snoc (l r : List Nat) : nI (l ++ r) = nI l ++ nI r := List.map_append
theorem nI_len (l : List Nat) : (nI l).length = l.length := List.length_map _
theorem nearL_take {sts : List Step} (h : ∀ p ∈ sts, p.2.2 ≤ 3) (j i : Nat) : (nearL (sts.take j) i).length ≤ 3 * sts.length := by
  have key : ∀ l : List Step, (∀ p ∈ l, p.2.2 ≤ 3) → (nearL l i).length ≤ 3 * l.length := by
    intro l
    induction l with
    | nil => intro _; simp [nearL]
    | cons p r ih =>
      intro hl
      have e : nearL (p :: r) i = (if p.1 = i then List.replicate p.2.2 p.2.1 else []) ++ nearL r i := by simp [nearL]
      have h1 := ih fun q hq => hl q (.tail _ hq)
      have h2 := hl p (.head _)
      rw [e, List.length_append, List.length_cons]
      split
      · rw [List.length_replicate]; omega
      · simp; omega
  have h1 := key (sts.take j) fun p hp => h p (List.mem_of_mem_take hp)
  have h2 : (sts.take j).length ≤ sts.length := List.length_take_le' _ _
  omega
theorem bhL_len (sts : List Step) (i : Nat) : (bhL sts i).length ≤ 5 := by
  unfold bhL
  exact filt_len _ 5
theorem flatB_len (sts : List Step) (l : List Nat) : (l.flatMap (bhL sts)).length ≤ 5 * l.length := by
  induction l with
  | nil => simp
  | cons x r ih =>
    have := bhL_len sts x
    rw [List.flatMap_cons, List.length_append, List.length_cons]; omega
section
variable {w : World} {A : Around} {E : Value → Shared → Prop} {s : Shared} {env : Env} {scope : Scope} {cl : List (Str × Addr)} {C : Addr}
/-- an item of a captured list in a comprehension -/
theorem citem {x k : Str} {p1 p2 p3 : Pos} {c D : Addr} {o : Obj} {mc : Str → Option Value} {vs : List Value} {v : Value} {j : Nat} {tj : Tok} {Q : Value → Shared → Prop} (e : s.heap.get? c = some o) (hd : o.data = .cell (some (.ref D))) (ns : s.heap.Ns C mc) (hv : mc k = some (.int (Int.ofNat j) tj)) (hl : s.heap.IsList D (List.toArray vs)) (hj : vs[j]? = some v) (hj63 : j < 2 ^ 62) (h : Q v s)
    (hk : (compEnvC scope cl C env).scope.kind = .function) (hx : (compEnvC scope cl C env).kindOf x = some .cell) (hc : cl.lookup x = some c) (hb : (x == ("__debug__" : Str)) = false) (hxk : scope.names.lookup k = some .local) (hk' : scope.kind = .function) (hb' : (k == ("__debug__" : Str)) = false) :
    wpAny (model PG w) A (eval (.Subscript (.Name x p1) (.Name k p2) p3) (compEnvC scope cl C env)) Q E s :=
  Subscript_ (cldC hk hx hc e hd (cld hxk hk' ns hv (item_in hl (Int.natCast_nonneg _) (by show ((j : Nat) : Int) < 2 ^ 63; omega) (by show (List.toArray vs)[j]? = _; simpa using hj) h sub_name) hb') hb)
end
theorem nI_idx (l : List Nat) (x : Nat) : (nI l).idxOf (Int.ofNat x) = l.idxOf x := by
  induction l with
  | nil => rfl
  | cons a r ih =>
    show (Int.ofNat a :: nI r).idxOf (Int.ofNat x) = _
    rw [List.idxOf_cons, List.idxOf_cons, ih]
    by_cases h : a = x
    · simp [h]
    · have : ¬ Int.ofNat a = Int.ofNat x := fun q => h (Int.ofNat.inj q)
      rw [beq_false_of_ne h, beq_false_of_ne this]
theorem max_lt {M : Int} {l : List Nat} (h1 : M ∈ (-1 : Int) :: nI l) (h2 : ∀ a ∈ (-1 : Int) :: nI l, a ≤ M) (x : Nat) : M < Int.ofNat x ↔ ∀ o ∈ l, o < x := by
  constructor
  · intro h o ho
    have := h2 (Int.ofNat o) (.tail _ (List.mem_map_of_mem ho))
    exact Int.ofNat_lt.mp (Int.lt_of_le_of_lt this h)
  · intro h
    rcases List.mem_cons.mp h1 with rfl | h1
    · exact Int.lt_of_lt_of_le (by decide) (Int.natCast_nonneg x)
    · obtain ⟨o, ho, rfl⟩ := List.mem_map.mp h1
      exact Int.ofNat_lt.mpr (h o ho)
theorem missL_snoc (far : Nat → Int) (near over : List Nat) (j : Nat) : missL far near over (j + 1) = missL far near over j ++ (if far (near.getD j 0) = 1 ∧ (near.idxOf (near.getD j 0) = j ∨ ∀ o ∈ over, o < near.getD j 0) then [near.getD j 0] else []) := by
  unfold missL; rw [List.range_succ, List.flatMap_append]; simp
theorem beyL_snoc (near over : List Nat) (j : Nat) : beyL near over (j + 1) = beyL near over j ++ (if over.getD j 0 ∉ near ∧ (over.idxOf (over.getD j 0) = j ∨ ∀ o ∈ near, o < over.getD j 0) then [over.getD j 0] else []) := by
  unfold beyL; rw [List.range_succ, List.flatMap_append]; simp
theorem flat_le1 (l : List Nat) (P : Nat → Prop) [DecidablePred P] (f : Nat → Nat) : (l.flatMap fun k => if P k then [f k] else []).length ≤ l.length := by
  induction l with
  | nil => simp
  | cons x r ih =>
    have h1 : (if P x then [f x] else []).length ≤ 1 := by split <;> simp
    rw [List.flatMap_cons, List.length_append, List.length_cons]
    omega
theorem missL_len (far : Nat → Int) (near over : List Nat) (j : Nat) : (missL far near over j).length ≤ j := by
  unfold missL
  refine Nat.le_trans (flat_le1 _ _ _) ?_
  rw [List.length_range]; exact Nat.le_refl _
theorem beyL_len (near over : List Nat) (j : Nat) : (beyL near over j).length ≤ j := by
  unfold beyL
  refine Nat.le_trans (flat_le1 _ _ _) ?_
  rw [List.length_range]; exact Nat.le_refl _
theorem flat_mono (f : Nat → List Nat) {i : Nat} (h : i ≤ 5) : ((List.range i).flatMap f).length ≤ ((List.range 5).flatMap f).length := by
  have : ∀ d, ((List.range i).flatMap f).length ≤ ((List.range (i + d)).flatMap f).length := by
    intro d
    induction d with
    | zero => exact Nat.le_refl _
    | succ d ih =>
      rw [← Nat.add_assoc, List.range_succ, List.flatMap_append, List.length_append]; omega
  have h2 := this (5 - i)
  rwa [show i + (5 - i) = 5 by omega] at h2
theorem stepsP_gs {nums : List Nat} {q : Nat} (hn : nums.length = 6) (h375 : ∀ x ∈ nums, x < 375) (hq : q < 5) : GS (stepsP (rowF q) nums) (rowF q) := by
  refine ⟨?_, fun p hp => ?_, fun k _ => Nat.mod_lt _ (by decide), fun j hj k hk h => ?_⟩
  · have : ∀ l : List Nat, (stepsP (rowF q) l).length ≤ l.length := by
      intro l
      induction l with
      | nil => simp [stepsP]
      | cons x r ih =>
        have e : stepsP (rowF q) (x :: r) = stepOf (rowF q) x ++ stepsP (rowF q) r := by simp [stepsP]
        have h1 : (stepOf (rowF q) x).length ≤ 1 := by unfold stepOf; split <;> simp
        rw [e, List.length_append, List.length_cons]; omega
    have := this nums; omega
  · obtain ⟨x, hx, hp⟩ := List.mem_flatMap.mp hp
    unfold stepOf at hp
    split at hp
    · rw [List.mem_singleton.mp hp]
      exact ⟨min (x % 5) (x / 5 % 5), max (x % 5) (x / 5 % 5), by omega, by omega, rfl, rfl, by show 1 ≤ 1 + x / 25 % 3; omega, by show 1 + x / 25 % 3 ≤ 3; omega⟩
    · cases hp
  · unfold rowF at h; omega
theorem law_code (w : World) (g : Heap) (ax : Addr) (ns : List Int) (hns : ns.length ≤ 1000) (s : Shared) (R : Result → Shared → Prop) (G : Gd w g) (hax : ListAt g ax ns) (st : g.StaysIn s.heap) (hsz : g.objs.size ≤ s.heap.objs.size)
    (hR : ∀ h' tk, g.StaysIn h' → R (.ok (.ret (.bool true))) { s with heap := h', toks := tk }) : codeAny (model PG w) (AA 301 4 []) (.call (.ref 175) ⟨[.ref ax], []⟩) R s := by
  obtain ⟨mean, mg, mb, T⟩ := G.T
  have X := G.X
  have hszl : (2000 : Nat) ≤ sizeLine := by rw [sizeLine_eq]; decide
  have hnl := T.nolimit
  clear T mean mg mb
  obtain ⟨tp, tl, mg, mb, TT, f1, f2, f3, f4, f5⟩ := bi_free G
  refine enterC (news := []) (binds := [(Str.ofString "script", .ref ax)]) X hnl st hsz (fun p hp => by cases hp) (by k_is) (by k_is) (show 301 < recursionLimit by decide) (BindsTo.of_eq rfl) ?_ (by decide) ?_ rfl rfl rfl
  · intro n x hx
    simp only [List.mem_cons, List.not_mem_nil, or_false] at hx
    subst hx
    exact .inl rfl
  intro L h₁ tk cells hL F N' hcells hfresh
  obtain ⟨o6, o5, o4, o3, o2, o1, rfl, e6, e5, e4, e3, e2, e1⟩ := kc_six hcells
  have d6 : o6.data = .cell none := e6
  have d5 : o5.data = .cell none := e5
  have d4 : o4.data = .cell none := e4
  have d3 : o3.data = .cell none := e3
  have d2 : o2.data = .cell none := e2
  have d1 : o1.data = .cell none := e1
  clear e6 e5 e4 e3 e2 e1 hcells hfresh
  obtain ⟨m0, c1, F0⟩ : ∃ m0 : Str → Option Value, m0 (Str.ofString "script") = some (.ref ax) ∧ Fr g L h₁ m0 := ⟨_, rfl, F⟩
  clear F
  have nod0 : ((cellsL L o6 o5 o4 o3 o2 o1).map (·.1)).Nodup := by
    have : ∀ a b : Nat, a < b → a ≠ b := fun a b h => Nat.ne_of_lt h
    show [L + 1 + 1 + 1 + 1 + 1 + 1, L + 1 + 1 + 1 + 1 + 1, L + 1 + 1 + 1 + 1, L + 1 + 1 + 1, L + 1 + 1, L + 1].Nodup
    have L' : @Eq Nat L L := rfl
    simp only [List.nodup_cons, List.mem_cons, List.not_mem_nil, or_false, not_or, not_false_eq_true, List.nodup_nil, and_true]
    refine ⟨⟨?_, ?_, ?_, ?_, ?_⟩, ⟨?_, ?_, ?_, ?_⟩, ⟨?_, ?_, ?_⟩, ⟨?_, ?_⟩, ?_⟩ <;> exact Nat.ne_of_gt (by show (_ : Nat) < _; omega)
  have y0 : LS g L s m0 (cellsL L o6 o5 o4 o3 o2 o1) [] { s with heap := h₁, toks := tk } := ⟨Stt.of (SlotsOf.refl []) .nil F0 N' (fun p hp => by cases hp), (fun p hp => by cases hp), nod0⟩
  refine wpAny_execs_cons (wpAny_Assign_Name (LS_defc y0 G (by k_is) (by k_is) (args_cons (y0.st.ldX c1 (args_nil ⟨y0.st.fr.keep, ?_⟩) rfl rfl) star_name) rfl rfl (by decide) star_name))
  refine LS.call y0 (law_numbers_spec w ax ns hns) G rfl rfl (fun g' st' _ => hax.keeps st') ?_
  intro vv s₁ pst hp9 y1
  refine hide2 fun QQ hQQ => ?_
  obtain ⟨an, nys, nums, rfl, rfl, hnI, hn6, h375⟩ := hp9
  refine hQQ _ _ ?_
  clear hQQ QQ
  refine y1.stC (c := L + 1) rfl (updF_of [_, _, _, _, _] [] nod0) d1 (fun s₂ o1' y2 d1' => ?_) rfl rfl
  clear y0 y1
  have hqn : ∃ q0, nums[0]? = some q0 ∧ q0 < 375 := ⟨nums[0], by simp [hn6], h375 _ (List.getElem_mem _)⟩
  obtain ⟨q0, hq0, hq375⟩ := hqn
  have hal : Hold [(an, lsO nys)] (fun h => ListAt h an (nums.map Int.ofNat)) := Hold.list (.head _) (LO.mk _ _) hnI
  -- row
  refine wpAny_execs_cons (LS_compA (g := g) (s₀ := s) (J := fun zs => IntsAre zs (([0, 1, 2, 3, 4] : List Nat).map fun k => Int.ofNat (rowF (q0 / 75) k))) (cl := [(Str.ofString "numbers", L + 1)]) rfl (by with_unfolding_all rfl) (by decide) rfl (by decide) (fun _ => rfl) rfl rfl (LS_range y2 TT f1 ?_ rfl rfl))
  intro s₃ r t3 u3 v3 k₃ hr3
  have y3 := y2.kb k₃
  refine ⟨_, _, _, _, _, _, y3, Src.range (n := 5) rfl hr3 (by decide) (by decide), ?_, ?_⟩
  · intro I' fp St C D' s₅ c
    refine codeAny_mono (c.emits (fun j zs => j ≤ 5 ∧ IntsAre zs ((List.range j).map fun k => Int.ofNat (rowF (q0 / 75) k))) ⟨by decide, .nil⟩ (fun j zs h => ?_) (turn_one ..) ?_) fun r s' hr => ?_
    · have := h.2.length
      rw [List.length_map, List.length_range] at this
      omega
    · rintro j x zs s' mc E' hj ⟨tx, rfl⟩ hJ kb _ ns'
      refine cput rfl rfl ns' fun s₆ k₆ n₆ => ⟨k₆, ⟨_, n₆⟩, wpAny_tests_nil ⟨KB.refl _ _, ?_⟩⟩
      rw [if_pos rfl]
      have kb6 := kb.fresh k₆ fun z hz => by rw [List.mem_singleton.mp hz]; exact c.fC
      have y6 := y3.kb kb6
      obtain ⟨tq, htq⟩ := hnI.get 0 (Int.ofNat q0) (by rw [List.getElem?_map, hq0]; rfl)
      refine wpAny_BinOp (wpAny_BinOp (wpAny_BinOp (wpAny_Constant_int (cld rfl rfl n₆ (if_pos rfl) (mul_int ?_)))))
      refine wpAny_BinOp (Subscript_ (cldC rfl (by first | rfl | with_unfolding_all rfl) (show List.lookup (Str.ofString "numbers") [(Str.ofString "numbers", L + 1)] = some (L + 1) from rfl) (y6.at (.tail _ (.tail _ (.tail _ (.tail _ (.tail _ (.head _))))))) d1' (wpAny_Constant_int ?_)))
      refine item_in (v := .int (Int.ofNat q0) tq) (items := List.toArray nys) ((LO.mk _ _).at (y6.st.news (an, lsO nys) (List.mem_append_right _ (.head _))).1) (by decide) (by decide) (by simpa using htq) ?_ sub_const
      refine wpAny_Constant_int (floordiv_int (by decide) ?_ (Or.inl (PyProof.noPylong_small (by omega))))
      refine add_int (wpAny_Constant_int (mod_int (by decide) ⟨KB.of fun b o _ q => q, ?_⟩))
      have hj5 : j < 5 := hj
      refine ⟨hj5, ?_⟩
      rw [List.range_succ, List.map_append]
      refine hJ.2.append ?_
      rw [show (Int.ofNat q0).fdiv 75 = Int.ofNat (q0 / 75) from fdN q0 75, show (2 : Int) * (0 + (j : Int)) + Int.ofNat (q0 / 75) = Int.ofNat (2 * j + q0 / 75) from (by rw [Int.ofNat_eq_natCast, Int.ofNat_eq_natCast]; omega), show (Int.ofNat (2 * j + q0 / 75)).fmod 5 = Int.ofNat ((2 * j + q0 / 75) % 5) from fmN _ 5]
      exact .cons _ _ .nil
    · obtain ⟨rfl, zs, a1, a2, a3, a4⟩ := hr
      exact ⟨rfl, zs, a1, a2, a3, a4.2⟩
  intro ar rys s₄ hrI y4
  clear y2 y3 hr3 k₃
  obtain ⟨m1, mr1, y5⟩ : ∃ m1 : Str → Option Value, m1 (Str.ofString "row") = some (.ref ar) ∧ LS g L s m1 (cellsL L o6 o5 o4 o3 o2 o1') ((ar, lsO rys) :: [(an, lsO nys)]) s₄ := ⟨_, if_pos rfl, y4⟩
  clear y4
  have hrl : Hold ((ar, lsO rys) :: [(an, lsO nys)]) (fun h => ListAt h ar (([0, 1, 2, 3, 4] : List Nat).map fun k => Int.ofNat (rowF (q0 / 75) k))) := Hold.list (.head _) (LO.mk _ _) hrI
  generalize hrw : rowF (q0 / 75) = rw' at hrl
  -- steps
  refine wpAny_execs_cons (wpAny_Assign_Name (LS_defc y5 G (by k_is) (by k_is) (args_cons (y5.st.ldC (c := L + 1) rfl (List.mem_append_left _ (.tail _ (.tail _ (.tail _ (.tail _ (.tail _ (.head _))))))) d1' (args_cons (y5.st.ldX mr1 (args_nil ⟨y5.st.fr.keep, ?_⟩) rfl rfl) star_name) rfl rfl) star_name) rfl rfl (by decide) star_name))
  refine LS.call y5 (law_steps_spec w an ar nums rw' (by omega) h375) G rfl rfl (fun g' st' hh => ⟨hal.cons g' fun p hp => hh p (List.mem_append_right _ hp), hrl g' fun p hp => hh p (List.mem_append_right _ hp)⟩) ?_
  intro vv s₆ pst hp9 y6
  refine hide2 fun QQ hQQ => ?_
  obtain ⟨as, svs, es, stl, rfl, rfl, hst, hne⟩ := hp9
  refine hQQ _ _ ?_
  clear hQQ QQ
  refine y6.stX (fun s₇ y7 => ?_) rfl rfl
  generalize hsts : stepsP rw' nums = sts at hst
  have gs : GS sts rw' := by subst hsts hrw; exact stepsP_gs hn6 h375 (by omega)
  clear y5 y6
  obtain ⟨m2, ms2, mr2, y8⟩ : ∃ m2 : Str → Option Value, m2 (Str.ofString "steps") = some (.ref as) ∧ m2 (Str.ofString "row") = some (.ref ar) ∧ LS g L s m2 (cellsL L o6 o5 o4 o3 o2 o1') (((as, listOf (List.toArray svs) es) :: stl) ++ ((ar, lsO rys) :: [(an, lsO nys)])) s₇ := ⟨_, if_pos rfl, (if_neg (by decide)).trans mr1, y7⟩
  clear y7
  have hsl : Hold (((as, listOf (List.toArray svs) es) :: stl) ++ ((ar, lsO rys) :: [(an, lsO nys)])) (fun h => StepsAt h as sts) := fun h hh => ⟨svs, (LO.mk _ _).at (hh _ (.head _)), hst h fun p hp => hh p (List.mem_append_left _ (.tail _ hp))⟩
  have hrl2 := hrl.mono (imm' := ((as, listOf (List.toArray svs) es) :: stl) ++ ((ar, lsO rys) :: [(an, lsO nys)])) fun p hp => List.mem_append_right _ hp
  clear hrl hal hst hne
  revert y8 hsl hrl2
  generalize ((as, listOf (List.toArray svs) es) :: stl) ++ ((ar, lsO rys) :: [(an, lsO nys)]) = imm0
  intro y8 hsl hrl
  -- behinds
  refine wpAny_execs_cons (wpAny_Assign_Name (dispL (args_nil ⟨by simp, fun s₈ B k₈ f₈ d₈ => ?_⟩)))
  have y9 := y8.addM f₈ k₈ d₈
  refine y9.stC (c := L + 1 + 1) rfl (updF_of [_, _, _, _, _] [_] y9.nod) d2 (fun s₉ o2' y10 d2' => ?_) rfl rfl
  have LJ0 : LJ B as ar sts rw' [] 0 m2 imm0 o6 o5 o4 o3 o2' := ⟨⟨_, d6⟩, ⟨_, d5⟩, ⟨_, d4⟩, ⟨_, d3⟩, d2', ms2, mr2, hsl, hrl, rfl, fun j hj => absurd hj (Nat.not_lt_zero _)⟩
  have y11 : LS g L s m2 ((B, listOf (List.toArray []) 0) :: cellsL L o6 o5 o4 o3 o2' o1') imm0 s₉ := y10
  clear y8 y9 y10 d2 d3 d4 d5 d6 d1 d1' d2' hsl hrl ms2 mr2 hrI hnI h375 hn6 hsts hrw c1 mr1 nod0 N' F0
  refine execs_mid (LM1 g L s B as ar sts rw') (wpAny_For (LS_range y11 TT f1 ?_ rfl rfl)) ?_
  · intro s₁₀ r t10 u10 v10 k10 hr10
    refine LS.forR (n := 5) (Src.range (n := 5) rfl hr10 (by decide) (by decide)) (LJ1 L B as ar sts rw') (y11.kb k10) ⟨_, _, _, _, _, _, [], 0, rfl, LJ0⟩ ?_ ?_
    · clear y11 LJ0 hr10 k10
      rintro I oI i _ m₁ mu₁ imm₁ s₁ hi ⟨tv, rfl⟩ hJ9 Y
      refine turn_veil fun QT ET hQT hET => hide fun GG hGG => ?_
      obtain ⟨o6, o5, o4, o3, o2, o1, bvs, e, rfl, lj⟩ := hJ9
      refine hGG ?_
      clear hGG GG
      rw [show (0 : Int) + (i : Int) = Int.ofNat i from Int.zero_add _]
      obtain ⟨v3, d3⟩ := lj.d3
      obtain ⟨v4, d4⟩ := lj.d4
      refine wpAny_assign_Name (Y.stC (c := L + 1 + 1 + 1) rfl (updF_of [_, _, _, _, _] [_, _] Y.nod) d3 (fun s₂ o3' Y₂ d3' => ?_) rfl rfl)
      clear Y
      have hs5 : ∀ p ∈ sts, p.1 < 5 ∧ p.2.1 < 5 ∧ p.2.2 ≤ 3 := fun p hp => by
        obtain ⟨a, b, h1, h2, h3, h4, h5, h6⟩ := gs.st p hp
        rw [h3, h4]; exact ⟨gs.lt a (by omega), gs.lt b h2, h6⟩
      -- far
      refine wpAny_execs_cons (wpAny_Assign_Name (LS_defc Y₂ G (by k_is) (by k_is) (args_cons (Y₂.st.ldX lj.ms (args_cons (Y₂.st.ldX lj.mr (args_cons (Y₂.st.ldC (c := L + 1 + 1 + 1) rfl (List.mem_append_left _ mk5) d3' (args_nil ⟨Y₂.st.fr.keep, ?_⟩) rfl rfl) star_name) rfl rfl) star_name) rfl rfl) star_name) rfl rfl (by decide) star_name))
      refine LS.call Y₂ (law_far_spec w as ar sts rw' i tv (fun p hp => ⟨(hs5 p hp).1, (hs5 p hp).2.1⟩) (by have := gs.len; omega) gs.lt hi) G rfl rfl (fun g' st' hh => ⟨lj.hs g' fun p hp => hh p (List.mem_append_right _ hp), lj.hr g' fun p hp => hh p (List.mem_append_right _ hp)⟩) ?_
      intro vv s₃ pst hp9 Y₃
      refine hide2 fun QQ hQQ => ?_
      obtain ⟨FD, oF, fys, far, rfl, rfl, hFO, hFI, hfar⟩ := hp9
      refine hQQ _ _ ?_
      clear hQQ QQ
      refine Y₃.stC (c := L + 1 + 1 + 1 + 1) rfl (updF_of [_, _, _, _] [_, _, _] Y₃.nod) d4 (fun s₄ o4' Y₄ d4' => ?_) rfl rfl
      clear Y₂ Y₃ d3 d4 v3 v4 s₂ s₃
      have hfat : ∀ k < 5, ∃ t, fys[k]? = some (.int (far k) t) := fun k hk => hFI.get k (far k) (names5_get far hk)
      have hmono : ∀ p ∈ imm₁, p ∈ [(FD, oF)] ++ imm₁ := fun p hp => List.mem_append_right _ hp
      -- out
      refine wpAny_execs_cons (wpAny_Assign_Name (LS_defc Y₄ G (by k_is) (by k_is) (args_cons (Y₄.st.ldX lj.ms (args_cons (Y₄.st.ldC (c := L + 1 + 1 + 1) rfl (List.mem_append_left _ mk5) d3' (args_nil ⟨Y₄.st.fr.keep, ?_⟩) rfl rfl) star_name) rfl rfl) star_name) rfl rfl (by decide) star_name))
      obtain ⟨rk, hrk⟩ := pl_rk gs
      have hrk' : ∀ p ∈ sts, rk p.1 < rk p.2.1 := fun p hp => by
        obtain ⟨a, b, h1, h2, h3, h4, h5, h6⟩ := gs.st p hp
        exact hrk _ _ ⟨p.2.2, h5, hp⟩
      refine LS.call Y₄ (law_run_spec w as sts hs5 (by have := gs.len; omega) i tv hi rk hrk') G rfl rfl (fun g' st' hh => lj.hs g' fun p hp => hh p (List.mem_append_right _ (hmono p hp))) ?_
      intro vv s₅ pst hp9 Y₅
      refine hide2 fun QQ hQQ => ?_
      obtain ⟨OD, oys, oe, ons, rfl, rfl, hOI, hop, how⟩ := hp9
      refine hQQ _ _ ?_
      clear hQQ QQ
      have hons := pl_out gs hi hfar hop how
      subst hons
      refine Y₅.stX (fun s₆ Y₆ => ?_) rfl rfl
      clear Y₄ Y₅ hop how s₄ s₅
      obtain ⟨m6, mo6, ms6, mr6, Y₆⟩ : ∃ m6 : Str → Option Value, m6 (Str.ofString "out") = some (.ref OD) ∧ m6 (Str.ofString "steps") = some (.ref as) ∧ m6 (Str.ofString "row") = some (.ref ar) ∧ LS g L s m6 ((I, oI) :: (B, listOf (List.toArray bvs) e) :: cellsL L o6 o5 o4' o3' o2 o1) ((OD, listOf (List.toArray oys) oe) :: (FD, oF) :: imm₁) s₆ := ⟨_, if_pos rfl, (if_neg (by decide)).trans lj.ms, (if_neg (by decide)).trans lj.mr, Y₆⟩
      have hfl : ∀ s₇, KB [] s₆ s₇ → s₇.heap.IsList FD (List.toArray fys) := fun s₇ k => hFO.at (k.at0 (Y₆.st.news (FD, oF) (List.mem_append_right _ mk1)).1)
      -- if out != ..
      refine wpAny_execs_cons (wpAny_If (wpAny_isTrue_Compare1 (Y₆.st.ldX mo6 ?_ rfl rfl)))
      refine compE (J := fun zs => IntsAre zs (nI ((List.range 5).filter fun k => decide (far k < 1)))) (cl := [(Str.ofString "far", L + 1 + 1 + 1 + 1)]) (by with_unfolding_all rfl) (by decide) rfl (by decide) (fun _ => rfl) (LS_range Y₆ TT f1 ?_ rfl rfl)
      intro s₇ r7 t7 u7 v7 k₇ hr7
      have Y₇ := Y₆.kb k₇
      refine ⟨_, _, _, Src.range (n := 5) rfl hr7 (by decide) (by decide), ?_, ?_⟩
      · intro I' fp St C D' s₈ c
        refine codeAny_mono (c.emits (fun j zs => IntsAre zs (nI ((List.range j).filter fun k => decide (far k < 1))) ∧ j ≤ 5) ⟨.nil, by decide⟩ (fun j zs h => ?_) (turn_one ..) ?_) fun r s' hr => ?_
        · have := h.1.length
          rw [nI_len] at this
          have h2 := filt_len (fun k => decide (far k < 1)) j
          have := h.2
          omega
        · rintro j x zs s' mc E' hj ⟨tx, rfl⟩ hJ kb _ ns'
          rw [show (0 : Int) + (j : Int) = Int.ofNat j from Int.zero_add _]
          refine cput rfl rfl ns' fun s₉ k₉ n₉ => ⟨k₉, ⟨_, n₉⟩, ?_⟩
          have kb9 := kb.fresh k₉ fun z hz => by rw [List.mem_singleton.mp hz]; exact c.fC
          have Y₉ := Y₇.kb kb9
          obtain ⟨tf, htf⟩ := hfat j hj
          refine wpAny_tests_one (wpAny_isTrue_Compare1 (Subscript_ (cldC rfl (by first | rfl | with_unfolding_all rfl) (show List.lookup (Str.ofString "far") [(Str.ofString "far", L + 1 + 1 + 1 + 1)] = some (L + 1 + 1 + 1 + 1) from rfl) (Y₉.at mk4) d4' (cld rfl rfl n₉ (if_pos rfl) ?_))))
          refine item_in (v := .int (far j) tf) (hfl _ (k₇.trans kb9)) (Int.natCast_nonneg _) (by show ((j : Nat) : Int) < 2 ^ 63; omega) (by show (List.toArray fys)[j]? = _; simpa using htf) ?_ sub_name
          refine wpAny_Constant_int (lt_int (wpAny_truthy_bool ⟨KB.of fun b o _ q => q, ?_⟩))
          have hj5 : j < 5 := hj
          by_cases hc : far j < 1
          · rw [if_pos (by simpa using hc)]
            refine cld rfl rfl n₉ (if_pos rfl) ⟨KB.refl _ _, ?_, hj5⟩
            rw [filt_snoc, if_pos (by simpa using hc), nI_snoc]
            exact hJ.1.append (.cons _ _ .nil)
          · rw [if_neg (by simpa using hc)]
            refine ⟨?_, hj5⟩
            rw [filt_snoc, if_neg (by simpa using hc), List.append_nil]
            exact hJ.1
        · obtain ⟨rfl, zs, a1, a2, a3, a4⟩ := hr
          exact ⟨rfl, zs, a1, a2, a3, a4.1⟩
      intro D₈ zs s₈ hJ8 kb8 fD8 dD8
      have Y₈ := (Y₇.kb kb8)
      refine neList (ns := nI ((List.range 5).filter fun k => decide (far k < 1))) ⟨oys, (LO.mk oys oe).at (Y₈.st.news (OD, _) (List.mem_append_right _ mk0)).1, hOI⟩ ⟨zs, (LO.mk _ _).at dD8, hJ8⟩ (by show 7 + 64 < cLine; decide) rfl (wpAny_truthy_bool ?_)
      rw [if_neg (by decide)]
      refine wpAny_execs_nil ?_
      dsimp only
      clear Y₆ Y₇ hr7 k₇ fD8 dD8 hJ8 kb8 hfl
      -- told
      refine wpAny_execs_cons (wpAny_Assign_Name (LS_defc Y₈ G (by k_is) (by k_is) (args_cons (Call_ (Y₈.st.ldB TT f2 Boot.«list» (by decide +kernel) (callWith_type1 (args_cons (LS_range Y₈ TT f1 ?_ rfl rfl) star_call) star_call plain_nil) rfl rfl (by decide))) star_call) rfl rfl (by decide) star_call))
      intro s₉ r9 t9 u9 v9 k₉ hr9
      refine args_nil (rangeK rfl hr9 fun s₁₀ XD xvs xe k10 fX dX hXI => ?_)
      have Y₁₀ := (Y₈.kb k₉).add fX k10 dX
      refine args_cons (Y₁₀.st.ldX mo6 (args_nil ⟨Y₁₀.st.fr.keep, ?_⟩) rfl rfl) star_name
      refine LS.call Y₁₀ (sld_spec w [0, 1, 2, 3, 4] (nI ((List.range 5).filter fun k => decide (far k < 1))) XD OD (by decide) (by rw [nI_len]; have := filt_len (fun k => decide (far k < 1)) 5; omega)) G rfl rfl (fun g' st' hh => ⟨⟨xvs, (LO.mk _ _).at (hh (XD, _) (List.mem_append_right _ mk0)), hXI⟩, ⟨oys, (LO.mk _ _).at (hh (OD, _) (List.mem_append_right _ mk1)), hOI⟩⟩) ?_
      intro vv s₁₁ pst hp9 Y₁₁
      refine hide2 fun QQ hQQ => ?_
      obtain ⟨TD, am, au, mi, ui, em, eu, rfl, -, -, -, rfl, hmi, hui⟩ := hp9
      refine hQQ _ _ ?_
      clear hQQ QQ
      rw [pl_told, pl_beh gs hi hfar] at hmi
      rw [pl_told] at hui
      refine Y₁₁.stX (fun s₁₂ Y₁₂ => ?_) rfl rfl
      clear Y₈ Y₁₀ Y₁₁ hXI fX dX k10 k₉ hr9
      obtain ⟨m12, mt12, ms12, mr12, Y₁₂⟩ : ∃ m12 : Str → Option Value, m12 (Str.ofString "told") = some (.ref TD) ∧ m12 (Str.ofString "steps") = some (.ref as) ∧ m12 (Str.ofString "row") = some (.ref ar) ∧ LS g L s m12 ((I, oI) :: (B, listOf (List.toArray bvs) e) :: cellsL L o6 o5 o4' o3' o2 o1) ([(TD, { cls := .type "tuple", data := .seq #[.ref am, .ref au] }), (au, listOf (List.toArray ui) eu), (am, listOf (List.toArray mi) em)] ++ ((XD, listOf (List.toArray xvs) xe) :: (OD, listOf (List.toArray oys) oe) :: (FD, oF) :: imm₁)) s₁₂ := ⟨_, if_pos rfl, (if_neg (by decide)).trans ms6, (if_neg (by decide)).trans mr6, Y₁₂⟩
      clear ms6 mr6 mo6
      have hfl : ∀ s₇, KB [] s₁₂ s₇ → s₇.heap.IsList FD (List.toArray fys) := fun s₇ k => hFO.at (k.at0 (Y₁₂.st.news (FD, oF) (List.mem_append_right _ (List.mem_append_right _ mk2))).1)
      -- if told != ..
      refine wpAny_execs_cons (wpAny_If (wpAny_isTrue_Compare1 (Y₁₂.st.ldX mt12 (wpAny_Tuple_spliced (args_cons ?_ star_comp)) rfl rfl)))
      refine compE (J := fun zs => IntsAre zs (nI ((List.range 5).filter fun k => decide (far k > 0)))) (cl := [(Str.ofString "far", L + 1 + 1 + 1 + 1)]) (by with_unfolding_all rfl) (by decide) rfl (by decide) (fun _ => rfl) (LS_range Y₁₂ TT f1 ?_ rfl rfl)
      intro s₇ r7 t7 u7 v7 k₇ hr7
      have Y₇ := Y₁₂.kb k₇
      refine ⟨_, _, _, Src.range (n := 5) rfl hr7 (by decide) (by decide), ?_, ?_⟩
      · intro I' fp St C D' s₈ c
        refine codeAny_mono (c.emits (fun j zs => IntsAre zs (nI ((List.range j).filter fun k => decide (far k > 0))) ∧ j ≤ 5) ⟨.nil, by decide⟩ (fun j zs h => ?_) (turn_one ..) ?_) fun r s' hr => ?_
        · have := h.1.length
          rw [nI_len] at this
          have h2 := filt_len (fun k => decide (far k > 0)) j
          have := h.2
          omega
        · rintro j x zs s' mc E' hj ⟨tx, rfl⟩ hJ kb _ ns'
          rw [show (0 : Int) + (j : Int) = Int.ofNat j from Int.zero_add _]
          refine cput rfl rfl ns' fun s₉ k₉ n₉ => ⟨k₉, ⟨_, n₉⟩, ?_⟩
          have kb9 := kb.fresh k₉ fun z hz => by rw [List.mem_singleton.mp hz]; exact c.fC
          have Y₉ := Y₇.kb kb9
          obtain ⟨tf, htf⟩ := hfat j hj
          refine wpAny_tests_one (wpAny_isTrue_Compare1 (Subscript_ (cldC rfl (by first | rfl | with_unfolding_all rfl) (show List.lookup (Str.ofString "far") [(Str.ofString "far", L + 1 + 1 + 1 + 1)] = some (L + 1 + 1 + 1 + 1) from rfl) (Y₉.at mk4) d4' (cld rfl rfl n₉ (if_pos rfl) ?_))))
          refine item_in (v := .int (far j) tf) (hfl _ (k₇.trans kb9)) (Int.natCast_nonneg _) (by show ((j : Nat) : Int) < 2 ^ 63; omega) (by show (List.toArray fys)[j]? = _; simpa using htf) ?_ sub_name
          refine wpAny_Constant_int (gt_int (wpAny_truthy_bool ⟨KB.of fun b o _ q => q, ?_⟩))
          have hj5 : j < 5 := hj
          by_cases hc : far j > 0
          · rw [if_pos (by simpa using hc)]
            refine cld rfl rfl n₉ (if_pos rfl) ⟨KB.refl _ _, ?_, hj5⟩
            rw [filt_snoc, if_pos (by simpa using hc), nI_snoc]
            exact hJ.1.append (.cons _ _ .nil)
          · rw [if_neg (by simpa using hc)]
            refine ⟨?_, hj5⟩
            rw [filt_snoc, if_neg (by simpa using hc), List.append_nil]
            exact hJ.1
        · obtain ⟨rfl, zs, a1, a2, a3, a4⟩ := hr
          exact ⟨rfl, zs, a1, a2, a3, a4.1⟩
      intro D₈ zs s₈ hJ8 kb8 fD8 dD8
      rw [pl_beh gs hi hfar] at hJ8
      refine args_cons (dispL (args_nil ⟨by simp, fun s₉ D₉ k₉ f₉ d₉ => ?_⟩)) star_list
      refine args_nil ⟨by simp; omega, ?_⟩
      have kbx : KB [] s₁₂ s₉ := k₇.trans (kb8.trans k₉)
      have Y₉ := Y₁₂.kb kbx
      have kp : KB [] s₉ { s₉ with heap := s₉.heap.push { cls := .type "tuple", data := .seq #[.ref D₈, .ref D₉] } } := KB.of (tk := s₉.toks) fun b o _ q => Heap.get?_push_of_some _ q
      have Y₁₃ := Y₉.add (none_at _) kp (Heap.get?_push_size _ rfl)
      refine nePairs (a1 := am) (a2 := au) (b1 := D₈) (b2 := D₉) (ns1 := nI (bhL sts i)) (ns2 := []) ⟨_, (Y₁₃.st.news (TD, _) (List.mem_append_right _ mk1)).1, rfl, _, rfl⟩ ⟨_, (Y₁₃.st.news _ (List.mem_append_right _ mk0)).1, rfl, _, rfl⟩ ⟨mi, (LO.mk _ _).at (Y₁₃.st.news (am, _) (List.mem_append_right _ mk3)).1, hmi⟩ ⟨ui, (LO.mk _ _).at (Y₁₃.st.news (au, _) (List.mem_append_right _ mk2)).1, hui⟩
        ⟨zs, (LO.mk _ _).at (kp.at0 (k₉.at0 dD8)), hJ8⟩ ⟨[], (LO.mk _ _).at (kp.at0 d₉), .nil⟩ (by show 7 + 64 < cLine; decide) rfl rfl (wpAny_truthy_bool ?_)
      rw [if_neg (by decide)]
      refine wpAny_execs_nil ?_
      dsimp only
      -- behinds.append
      refine wpAny_execs_cons (wpAny_Expr_any (MethodCall_ (Y₁₃.st.ldC (c := L + 1 + 1) rfl (List.mem_append_left _ mk6) lj.d2 ?_ rfl rfl)) rfl rfl)
      refine Y₁₃.st.lmethod (List.mem_append_left _ mk1) PySem.F.slot_list_append PySem.F.type_list_append (callWith_method1 (args_cons (Subscript_ (Y₁₃.st.ldX mt12 (wpAny_Constant_int ?_) rfl rfl)) star_sub) star_sub plain_nil)
      refine tupItem (v := .ref am) (items := #[.ref am, .ref au]) ⟨_, (Y₁₃.st.news (TD, _) (List.mem_append_right _ mk1)).1, rfl, _, rfl⟩ (by decide) (by decide) rfl ?_ sub_const
      refine args_nil ?_
      have hbl := lj.bl
      refine LS.appendL (Y₁₃.tok) (updF_of [_] [_, _, _, _, _, _] Y₁₃.nod) (by rw [List.size_toArray]; omega) fun s₁₄ Y₁₄ => ?_
      rw [List.push_toArray] at Y₁₄
      refine wpAny_execs_nil (hQT .next _ ⟨m12, _, _, ⟨o6, o5, o4', o3', o2, o1, bvs ++ [Value.ref am], e + 1, rfl, ⟨lj.d6, lj.d5, ⟨_, d4'⟩, ⟨_, d3'⟩, lj.d2, ms12, mr12, lj.hs.mono fun p hp => ?_, lj.hr.mono fun p hp => ?_, ?_, fun j hj => ?_⟩⟩, Y₁₄⟩)
      · exact .tail _ (List.mem_append_right _ (.tail _ (.tail _ (.tail _ hp))))
      · exact .tail _ (List.mem_append_right _ (.tail _ (.tail _ (.tail _ hp))))
      · rw [List.length_append, hbl]; rfl
      · by_cases hji : j < i
        · obtain ⟨a, ha, hh⟩ := lj.bv j hji
          refine ⟨a, by rw [List.getElem?_append_left (by omega)]; exact ha, hh.mono fun p hp => .tail _ (List.mem_append_right _ (.tail _ (.tail _ (.tail _ hp))))⟩
        · have hji' : j = i := by omega
          subst hji'
          refine ⟨am, by rw [List.getElem?_append_right (by omega), hbl, Nat.sub_self]; rfl, fun h hh => ⟨mi, (LO.mk _ _).at (hh (am, _) mk3), hmi⟩⟩
    · rintro m' _ imm' s' ⟨o6, o5, o4, o3, o2, o1, bvs, e, rfl, lj⟩ Y
      exact ⟨rfl, m', imm', o6, o5, o4, o3, o2, o1, bvs, e, Y, lj⟩
  clear y11 LJ0
  intro s₁ hJ9
  refine hide fun GG hGG => ?_
  obtain ⟨m, imm, o6, o5, o4, o3, o2, o1, bvs, e, Y, lj⟩ := hJ9
  refine hGG ?_
  clear hGG GG
  refine wpAny_execs_cons (wpAny_Assign_Name (dispL (args_nil ⟨by simp, fun s₂ K k₂ f₂ d₂ => ?_⟩)))
  have Y₂ := Y.addM f₂ k₂ d₂
  refine Y₂.stX (fun s₃ Y₃ => ?_) rfl rfl
  obtain ⟨m3, mk3', lj3, Y₃⟩ : ∃ m3 : Str → Option Value, m3 (Str.ofString "kept") = some (.ref K) ∧ LJ B as ar sts rw' bvs 5 m3 imm o6 o5 o4 o3 o2 ∧ LS g L s m3 ((K, listOf (List.toArray []) 0) :: (B, listOf (List.toArray bvs) e) :: cellsL L o6 o5 o4 o3 o2 o1) imm s₃ := ⟨_, if_pos rfl, { lj with ms := (if_neg (by decide)).trans lj.ms, mr := (if_neg (by decide)).trans lj.mr }, Y₃⟩
  clear Y Y₂ lj
  have KP0 : KP sts 0 [] := ⟨fun p => ⟨fun h => (by cases h), fun h => absurd h.1 (Nat.not_lt_zero _)⟩, Nat.zero_le _⟩
  refine execs_mid (LM2 g L s K B as ar sts rw') (wpAny_For (LS_range Y₃ TT f1 ?_ rfl rfl)) ?_
  · intro s₁₀ r t10 u10 v10 k10 hr10
    refine LS.forR (n := 5) (Src.range (n := 5) rfl hr10 (by decide) (by decide)) (LJ2 L K B as ar sts rw') (Y₃.kb k10) ⟨_, _, _, _, _, _, bvs, e, [], 0, [], rfl, lj3, KP0, fun h _ => .nil, mk3'⟩ ?_ ?_
    · clear Y₃ lj3 KP0 mk3' hr10 k10 d₂ f₂ k₂
      rintro I oI i _ m₁ mu₁ imm₁ s₁ hi ⟨tv, rfl⟩ hJ9 Y
      refine turn_veil fun QT ET hQT hET => hide fun GG hGG => ?_
      obtain ⟨o6, o5, o4, o3, o2, o1, bvs, e, kvs, ek, kept, rfl, lj, kp, hkv, mkp⟩ := hJ9
      refine hGG ?_
      clear hGG GG
      rw [show (0 : Int) + (i : Int) = Int.ofNat i from Int.zero_add _]
      obtain ⟨v3, d3⟩ := lj.d3
      obtain ⟨v4, d4⟩ := lj.d4
      obtain ⟨v5, d5⟩ := lj.d5
      obtain ⟨v6, d6⟩ := lj.d6
      refine wpAny_assign_Name (Y.stC (c := L + 1 + 1 + 1) rfl (updF_of [_, _, _, _, _, _] [_, _] Y.nod) d3 (fun s₂ o3' Y₂ d3' => ?_) rfl rfl)
      clear Y
      have hs5 : ∀ p ∈ sts, p.1 < 5 ∧ p.2.1 < 5 ∧ p.2.2 ≤ 3 := fun p hp => by
        obtain ⟨a, b, h1, h2, h3, h4, h5, h6⟩ := gs.st p hp
        rw [h3, h4]; exact ⟨gs.lt a (by omega), gs.lt b h2, h6⟩
      -- far
      refine wpAny_execs_cons (wpAny_Assign_Name (LS_defc Y₂ G (by k_is) (by k_is) (args_cons (Y₂.st.ldX lj.ms (args_cons (Y₂.st.ldX lj.mr (args_cons (Y₂.st.ldC (c := L + 1 + 1 + 1) rfl (List.mem_append_left _ mk6) d3' (args_nil ⟨Y₂.st.fr.keep, ?_⟩) rfl rfl) star_name) rfl rfl) star_name) rfl rfl) star_name) rfl rfl (by decide) star_name))
      refine LS.call Y₂ (law_far_spec w as ar sts rw' i tv (fun p hp => ⟨(hs5 p hp).1, (hs5 p hp).2.1⟩) (by have := gs.len; omega) gs.lt hi) G rfl rfl (fun g' st' hh => ⟨lj.hs g' fun p hp => hh p (List.mem_append_right _ hp), lj.hr g' fun p hp => hh p (List.mem_append_right _ hp)⟩) ?_
      intro vv s₃ pst hp9 Y₃
      refine hide2 fun QQ hQQ => ?_
      obtain ⟨FD, oF, fys, far, rfl, rfl, hFO, hFI, hfar⟩ := hp9
      refine hQQ _ _ ?_
      clear hQQ QQ
      refine Y₃.stC (c := L + 1 + 1 + 1 + 1) rfl (updF_of [_, _, _, _, _] [_, _, _] Y₃.nod) d4 (fun s₄ o4' Y₄ d4' => ?_) rfl rfl
      clear Y₂ Y₃ d3 d4 v3 v4 s₂ s₃
      have hfat : ∀ k < 5, ∃ t, fys[k]? = some (.int (far k) t) := fun k hk => hFI.get k (far k) (names5_get far hk)
      have hmono : ∀ p ∈ imm₁, p ∈ [(FD, oF)] ++ imm₁ := fun p hp => List.mem_append_right _ hp
      -- near
      refine wpAny_execs_cons (wpAny_Assign_Name (Call_ (Y₄.st.ldB TT f3 Boot.«sorted» (by decide +kernel) (callWith_builtin1 (args_cons ?_ star_comp) star_comp plain_nil) rfl rfl (by decide))))
      refine compE (J := fun zs => IntsAre zs (nI (nearL sts i))) (cl := [(Str.ofString "name", L + 1 + 1 + 1)]) (by with_unfolding_all rfl) (by decide) rfl (by decide) (fun _ => rfl) (Y₄.st.ldX lj.ms ?_ rfl rfl)
      obtain ⟨svs, hsl, hsa⟩ := Y₄.hold (lj.hs.mono hmono)
      have hssz : (List.toArray svs).size = sts.length := by rw [List.size_toArray, hsa.length]
      refine ⟨_, _, _, Src.list (its := List.toArray svs) rfl hsl, ?_, ?_⟩
      · intro I' fp St C D' s₅ c
        refine codeAny_mono (c.nests (fun j zs => IntsAre zs (nI (nearL (sts.take j) i))) .nil (fun _ => rfl) ?_) fun r s' hr => ?_
        · intro j x zs s' mc E' hj hP hJ kb ns'
          have hj' : j < sts.length := by rw [← hssz]; exact hj
          obtain ⟨⟨se, sl, sn⟩, hst⟩ : ∃ st, sts[j]? = some st := ⟨sts[j], by simp [hj']⟩
          obtain ⟨T', te', tl', tn', hvT, hT⟩ := hsa.get hst
          have hx : x = .ref T' := by
            have hP' : svs[j]? = some x := by simpa using hP
            rw [hvT] at hP'; exact (Option.some.inj hP').symm
          subst hx
          have hsn : sn ≤ 3 := (hs5 _ (List.mem_of_getElem? hst)).2.2
          refine cput3 rfl rfl rfl rfl rfl ns' (hT.at fun o q => kb.at0 q) fun s₆ k₆ n₆ => ⟨k₆, ⟨_, n₆⟩, ?_⟩
          have kb6 := kb.fresh k₆ fun z hz => by rw [List.mem_singleton.mp hz]; exact c.fC
          have Y₆ := Y₄.kb kb6
          have hnx : nearL (sts.take (j + 1)) i = nearL (sts.take j) i ++ (if se = i then List.replicate sn sl else []) := by
            rw [List.take_add_one, hst]; exact nearL_snoc _ _ _
          refine wpAny_tests_one (wpAny_isTrue_Compare1 (cld rfl rfl n₆ ((if_neg (by decide)).trans ((if_neg (by decide)).trans (if_pos rfl))) (cldC rfl (by first | rfl | with_unfolding_all rfl) (show List.lookup (Str.ofString "name") [(Str.ofString "name", L + 1 + 1 + 1)] = some (L + 1 + 1 + 1) from rfl) (Y₆.at mk6) d3' (eq_int (wpAny_truthy_bool ⟨KB.refl _ _, ?_⟩)))))
          by_cases hei : se = i
          · rw [if_pos (by rw [hei]; simp)]
            refine Call_ (cldB (TT.g.keeps Y₆.st.fr.keep) f1 (TT.b.keeps Y₆.st.fr.keep) ((TT.builtins _ (by decide +kernel)).trans Boot.«range») (callWith_type1 (args_cons (cld rfl rfl n₆ (if_pos rfl) (args_nil (rangeV fun s₇ r7 t7 u7 v7 k₇ hr7 => ?_))) star_name) star_name plain_nil) rfl (by first | rfl | with_unfolding_all rfl))
            refine ⟨k₇, sn, _, _, Src.rangeN rfl hr7 (by omega), fun b hb => (by cases hb), fun I2 fp2 St2 s₈ c2 k78 => ?_⟩
            have n₈ := (k₇.trans k78).ns (by simp) n₆
            have hCI : C ≠ I2 := fun q => c2.hC (q ▸ c2.walks.sub I2 (List.mem_singleton.mpr rfl))
            refine codeAny_mono (c2.emitsH (fun k zs' h => IntsAre zs' (nI (nearL (sts.take j) i ++ List.replicate k sl)) ∧ k ≤ sn ∧ (nearL (sts.take j) i).length ≤ 100 ∧ ∃ mc, h.Ns C mc ∧ mc (Str.ofString "late") = some (.int (Int.ofNat sl) tl')) (fun k zs' h h' q hh => ?_) ⟨by simpa using hJ, Nat.zero_le _, ?_, _, n₈, (if_neg (by decide)).trans (if_pos rfl)⟩ (fun k zs' h hh => ?_) (turn_in ..) ?_) fun r s' hr => ?_
            · obtain ⟨h1, h2, h0, mc', h3, h4⟩ := hh
              exact ⟨h1, h2, h0, mc', h3.at' fun o eo => q C o (by simp only [List.mem_cons, List.not_mem_nil, or_false, not_or]; exact ⟨hCI, c2.hCD⟩) eo, h4⟩
            · have h1 := nearL_take (sts := sts) (fun p hp => (hs5 p hp).2.2) j i
              have := gs.len
              omega
            · have h1 := hh.1.length
              rw [nI_len, List.length_append, List.length_replicate] at h1
              have := hh.2.1
              have := hh.2.2.1
              omega
            · rintro k x zs' s' mc' E' hk ⟨tx, rfl⟩ ⟨hJ', hk', h100, mc2, hn', el⟩ kb' _ ns'' _ _
              refine cput rfl rfl hn' fun s₉ k₉ n₉ => ⟨k₉, ⟨_, n₉⟩, wpAny_tests_nil ⟨KB.refl _ _, ?_⟩⟩
              rw [if_pos rfl]
              refine cld rfl rfl n₉ ((if_neg (by decide)).trans el) ⟨KB.refl _ _, ?_, hk, h100, _, n₉, (if_neg (by decide)).trans el⟩
              rw [List.replicate_succ', ← List.append_assoc, nI_snoc]
              exact hJ'.append (.cons _ _ .nil)
            · obtain ⟨rfl, zs', a1, a2, a3, a4, -⟩ := hr
              exact ⟨rfl, zs', a1, a2, a3, by rw [hnx, if_pos hei]; exact a4⟩
          · have hei' : ¬ ((se : Int) = (i : Int)) := fun q => hei (by exact_mod_cast q)
            rw [if_neg (by simpa using hei'), hnx, if_neg hei, List.append_nil]
            exact hJ
        · obtain ⟨rfl, zs, a1, a2, a3, a4⟩ := hr
          rw [hssz, List.take_length] at a4
          exact ⟨rfl, zs, a1, a2, a3, a4⟩
      intro D₆ nzs s₆ hJ6 kb6 fD6 dD6
      have hn18 := (pl_near gs).2 i hi
      have hzl := hJ6.length
      rw [nI_len] at hzl
      refine args_nil (sortedK ((LO.mk _ _).at dD6) hJ6 (by omega) fun s₇ ND nvs nns ne k₇ f₇ d₇ hNI hnp hnw => ?_)
      obtain ⟨near, rfl, hnp2⟩ := nat_of_perm hnp
      have hnw2 := pair_nI hnw
      clear hnp hnw
      have Y₇ := (Y₄.kb kb6).add f₇ k₇ d₇
      refine Y₇.stC (c := L + 1 + 1 + 1 + 1 + 1) rfl (updF_of [_, _, _, _] [_, _, _, _] Y₇.nod) d5 (fun s₈ o5' Y₈ d5' => ?_) rfl rfl
      clear Y₄ Y₇ fD6 dD6 hJ6 kb6 f₇ d₇ k₇ hsl hsa hssz d5 v5
      have hnl : near.length ≤ 18 := by rw [hnp2.length_eq]; exact hn18
      have hn5 : ∀ x ∈ near, x < 5 := fun x hx => by
        obtain ⟨p, hp, hx⟩ := List.mem_flatMap.mp (hnp2.mem_iff.mp hx)
        split at hx
        · rw [(List.mem_replicate.mp hx).2]; exact (hs5 p hp).2.1
        · cases hx
      -- over
      refine wpAny_execs_cons (wpAny_Assign_Name (Call_ (Y₈.st.ldB TT f3 Boot.«sorted» (by decide +kernel) (callWith_builtin1 (args_cons ?_ star_comp) star_comp plain_nil) rfl rfl (by decide))))
      refine compE (J := fun zs => IntsAre zs (nI (near.flatMap (bhL sts)))) (cl := [(Str.ofString "behinds", L + 1 + 1)]) (by with_unfolding_all rfl) (by decide) rfl (by decide) (fun _ => rfl) (Y₈.st.ldC (c := L + 1 + 1 + 1 + 1 + 1) rfl (List.mem_append_left _ mk4) d5' ?_ rfl rfl)
      have hnat : s₈.heap.IsList ND (List.toArray nvs) := (LO.mk _ _).at (Y₈.st.news (ND, _) (List.mem_append_right _ mk0)).1
      have hnsz : (List.toArray nvs).size = near.length := by rw [List.size_toArray, hNI.length, nI_len]
      have hmono2 : ∀ p ∈ imm₁, p ∈ (ND, listOf (List.toArray nvs) ne) :: ([(FD, oF)] ++ imm₁) := fun p hp => .tail _ (hmono p hp)
      refine ⟨_, _, _, Src.list (its := List.toArray nvs) rfl hnat, ?_, ?_⟩
      · intro I' fp St C D' s₅ c
        refine codeAny_mono (c.nests (fun j zs => IntsAre zs (nI ((near.take j).flatMap (bhL sts)))) .nil (fun _ => rfl) ?_) fun r s' hr => ?_
        · intro j x zs s' mc E' hj hP hJ kb ns'
          have hj' : j < near.length := by rw [← hnsz]; exact hj
          obtain ⟨la, hla⟩ : ∃ la, near[j]? = some la := ⟨near[j], by simp [hj']⟩
          obtain ⟨tl, htl⟩ := hNI.get j (Int.ofNat la) (by simp [nI, hla])
          have hx : x = .int (Int.ofNat la) tl := by
            have hP' : nvs[j]? = some x := by simpa using hP
            rw [htl] at hP'; exact (Option.some.inj hP').symm
          subst hx
          have hla5 := hn5 la (List.mem_of_getElem? hla)
          refine cput rfl rfl ns' fun s₆ k₆ n₆ => ⟨k₆, ⟨_, n₆⟩, wpAny_tests_nil ⟨KB.refl _ _, ?_⟩⟩
          rw [if_pos rfl]
          have kb6 := kb.fresh k₆ fun z hz => by rw [List.mem_singleton.mp hz]; exact c.fC
          have Y₆ := Y₈.kb kb6
          obtain ⟨ba, hba, hbh⟩ := lj.bv la hla5
          refine Subscript_ (cldC rfl (by first | rfl | with_unfolding_all rfl) (show List.lookup (Str.ofString "behinds") [(Str.ofString "behinds", L + 1 + 1)] = some (L + 1 + 1) from rfl) (Y₆.at mk7) lj.d2 (cld rfl rfl n₆ (if_pos rfl) ?_))
          refine item_in (v := .ref ba) ((LO.mk bvs e).at (Y₆.at mk2)) (Int.natCast_nonneg _) (by show ((la : Nat) : Int) < 2 ^ 63; omega) (by show (List.toArray bvs)[la]? = _; simpa using hba) ?_ sub_name
          obtain ⟨bzs, hbl, hbI⟩ := Y₆.hold (hbh.mono hmono2)
          obtain ⟨bzs0, ⟨bo0, hbo0, _⟩, _⟩ := Y₈.hold (hbh.mono hmono2)
          have hbsz : (List.toArray bzs).size = (bhL sts la).length := by rw [List.size_toArray, hbI.length, nI_len]
          refine ⟨KB.refl _ _, _, _, _, Src.list (its := List.toArray bzs) rfl hbl, fun b hb => ?_, fun I2 fp2 St2 s₈' c2 k78 => ?_⟩
          · rw [List.mem_singleton.mp hb]; exact ⟨bo0, hbo0⟩
          have hfl := flatB_len sts (near.take j)
          have hb5 := bhL_len sts la
          have htk : (near.take j).length ≤ near.length := List.length_take_le' _ _
          refine codeAny_mono (c2.emits (fun k zs' => IntsAre zs' (nI ((near.take j).flatMap (bhL sts) ++ (bhL sts la).take k))) (by simpa using hJ) (fun k zs' h => ?_) (turn_in ..) ?_) fun r s' hr => ?_
          · have h1 := h.length
            have h2 : ((bhL sts la).take k).length ≤ (bhL sts la).length := List.length_take_le' _ _
            rw [nI_len, List.length_append] at h1
            omega
          · intro k x zs' s' mc' E' hk hP' hJ' kb' _ ns''
            have hk' : k < (bhL sts la).length := by rw [← hbsz]; exact hk
            obtain ⟨bx, hbx⟩ : ∃ bx, (bhL sts la)[k]? = some bx := ⟨(bhL sts la)[k], by simp [hk']⟩
            obtain ⟨tb, htb⟩ := hbI.get k (Int.ofNat bx) (by simp [nI, hbx])
            have hx : x = .int (Int.ofNat bx) tb := by
              have hP'' : bzs[k]? = some x := by simpa using hP'
              rw [htb] at hP''; exact (Option.some.inj hP'').symm
            subst hx
            refine cput rfl rfl ns'' fun s₉ k₉ n₉ => ⟨k₉, ⟨_, n₉⟩, wpAny_tests_nil ⟨KB.refl _ _, ?_⟩⟩
            rw [if_pos rfl]
            refine cld rfl rfl n₉ (if_pos rfl) ⟨KB.refl _ _, ?_⟩
            rw [List.take_add_one, hbx, ← List.append_assoc, nI_snoc]
            exact hJ'.append (.cons _ _ .nil)
          · obtain ⟨rfl, zs', a1, a2, a3, a4⟩ := hr
            refine ⟨rfl, zs', a1, a2, a3, ?_⟩
            rw [hbsz, List.take_length] at a4
            rw [List.take_add_one, hla, List.flatMap_append]
            simpa using a4
        · obtain ⟨rfl, zs, a1, a2, a3, a4⟩ := hr
          rw [hnsz, List.take_length] at a4
          exact ⟨rfl, zs, a1, a2, a3, a4⟩
      intro D₆ ozs s₆ hJ6 kb6 fD6 dD6
      have ho64 := pl_over gs hi hnp2
      have hzl2 := hJ6.length
      rw [nI_len] at hzl2
      refine args_nil (sortedK ((LO.mk _ _).at dD6) hJ6 (by omega) fun s₇ OD ovs ons oe k₇ f₇ d₇ hOI hop how => ?_)
      obtain ⟨over, rfl, hop2⟩ := nat_of_perm hop
      have how2 := pair_nI how
      clear hop how
      have Y₇ := (Y₈.kb kb6).add f₇ k₇ d₇
      refine Y₇.stC (c := L + 1 + 1 + 1 + 1 + 1 + 1) rfl (updF_of [_, _, _] [_, _, _, _, _] Y₇.nod) d6 (fun s₉ o6' Y₉ d6' => ?_) rfl rfl
      have hol : over.length < 64 := by rw [hop2.length_eq]; exact ho64
      clear Y₈ Y₇ fD6 dD6 hJ6 kb6 f₇ d₇ k₇ hnat d6 v6 hzl hzl2 ho64 hn18
      -- first, second
      refine wpAny_execs_cons (Assign_Tuple_swapped (names := [Str.ofString "first", Str.ofString "second"]) (wpAny_Tuple_spliced (args_cons (Call_ (Y₉.st.ldB TT f2 Boot.«list» (by decide +kernel) (callWith_type1 (args_cons (Y₉.st.ldC (c := L + 1 + 1 + 1 + 1 + 1) rfl (List.mem_append_left _ mk4) d5' (args_nil ?_) rfl rfl) star_name) star_name plain_nil) rfl rfl (by decide))) star_call)))
      refine copyK ((LO.mk nvs ne).at (Y₉.st.news (ND, _) (List.mem_append_right _ mk1)).1) (by rw [hNI.length, nI_len]; omega) fun s₁₀ FiD fe k10 f10 d10 => ?_
      have Y₁₀ := Y₉.add f10 k10 d10
      refine args_cons (Call_ (Y₁₀.st.ldB TT f2 Boot.«list» (by decide +kernel) (callWith_type1 (args_cons (Y₁₀.st.ldC (c := L + 1 + 1 + 1 + 1 + 1 + 1) rfl (List.mem_append_left _ mk3) d6' (args_nil ?_) rfl rfl) star_name) star_name plain_nil) rfl rfl (by decide))) star_call
      refine copyK ((LO.mk ovs oe).at (Y₁₀.st.news (OD, _) (List.mem_append_right _ mk1)).1) (by rw [hOI.length, nI_len]; omega) fun s₁₁ SeD fe2 k11 f11 d11 => ?_
      have Y₁₁ := Y₁₀.add f11 k11 d11
      refine args_nil ⟨by simp; omega, ?_⟩
      have kp2 : KB [] s₁₁ { s₁₁ with heap := s₁₁.heap.push { cls := .type "tuple", data := .seq #[.ref FiD, .ref SeD] } } := KB.of (tk := s₁₁.toks) fun b o _ q => Heap.get?_push_of_some _ q
      have Y₁₂ := Y₁₁.kb kp2
      refine unpackItems_tuple (items := #[.ref FiD, .ref SeD]) rfl ⟨_, Heap.get?_push_size _ rfl, rfl, _, rfl⟩ fun h13 ext13 => ?_
      have Y₁₃ := Y₁₂.kb (KB.of (tk := s₁₁.toks) (h := h13) fun b o hb q => ext13 b o (Nat.ne_of_lt (Heap.lt_size q)) q)
      clear Y₉ Y₁₀ Y₁₁ Y₁₂ f10 k10 d10 f11 k11 d11 kp2 ext13
      show wpAny _ _ (assignInOrder [_, _] [.ref SeD, .ref FiD]) _ _ _
      refine assignInOrder_cons (bindName_ (Y₁₃.stX (fun s₁₄ Y₁₄ => ?_) rfl rfl))
      refine assignInOrder_cons (bindName_ (Y₁₄.stX (fun s₁₅ Y₁₅ => ?_) rfl rfl))
      refine assignInOrder_nil ?_
      clear Y₁₃ Y₁₄
      have hmono3 : ∀ p ∈ imm₁, p ∈ (SeD, listOf (List.toArray ovs) fe2) :: (FiD, listOf (List.toArray nvs) fe) :: (OD, listOf (List.toArray ovs) oe) :: (ND, listOf (List.toArray nvs) ne) :: (FD, oF) :: imm₁ := fun p hp => .tail _ (.tail _ (.tail _ (.tail _ (.tail _ hp))))
      obtain ⟨m2, mf, mse, lj2, mkp2, Y⟩ : ∃ m2 : Str → Option Value, m2 (Str.ofString "first") = some (.ref FiD) ∧ m2 (Str.ofString "second") = some (.ref SeD) ∧ LJ B as ar sts rw' bvs 5 m2 ((SeD, listOf (List.toArray ovs) fe2) :: (FiD, listOf (List.toArray nvs) fe) :: (OD, listOf (List.toArray ovs) oe) :: (ND, listOf (List.toArray nvs) ne) :: (FD, oF) :: imm₁) o6' o5' o4' o3' o2 ∧ m2 (Str.ofString "kept") = some (.ref K) ∧
          LS g L s m2 ((I, oI) :: (K, listOf (List.toArray kvs) ek) :: (B, listOf (List.toArray bvs) e) :: cellsL L o6' o5' o4' o3' o2 o1) ((SeD, listOf (List.toArray ovs) fe2) :: (FiD, listOf (List.toArray nvs) fe) :: (OD, listOf (List.toArray ovs) oe) :: (ND, listOf (List.toArray nvs) ne) :: (FD, oF) :: imm₁) s₁₅ :=
        ⟨_, if_pos rfl, (if_neg (by decide)).trans (if_pos rfl), { d6 := ⟨_, d6'⟩, d5 := ⟨_, d5'⟩, d4 := ⟨_, d4'⟩, d3 := ⟨_, d3'⟩, d2 := lj.d2, ms := (if_neg (by decide)).trans ((if_neg (by decide)).trans lj.ms), mr := (if_neg (by decide)).trans ((if_neg (by decide)).trans lj.mr), hs := lj.hs.mono hmono3, hr := lj.hr.mono hmono3, bl := lj.bl, bv := fun j hj => let ⟨a, h1, h2⟩ := lj.bv j hj; ⟨a, h1, h2.mono hmono3⟩ }, (if_neg (by decide)).trans ((if_neg (by decide)).trans mkp), Y₁₅⟩
      clear Y₁₅
      have hkv2 := hkv.mono hmono3
      clear hmono hmono2 hkv lj mkp
      -- told
      refine wpAny_execs_cons (wpAny_Assign_Name (LS_defc Y G (by k_is) (by k_is) (args_cons (Y.st.ldX mf (args_cons (Y.st.ldX mse (args_nil ⟨Y.st.fr.keep, ?_⟩) rfl rfl) star_name) rfl rfl) star_name) rfl rfl (by decide) star_name))
      refine LS.call Y (sld_spec w (nI near) (nI over) FiD SeD (by rw [nI_len]; omega) (by rw [nI_len]; omega)) G rfl rfl (fun g' st' hh => ⟨⟨nvs, (LO.mk _ _).at (hh (FiD, _) (List.mem_append_right _ mk1)), hNI⟩, ⟨ovs, (LO.mk _ _).at (hh (SeD, _) (List.mem_append_right _ mk0)), hOI⟩⟩) ?_
      intro vv s₁₁ pst hp9 Y₁₁
      refine hide2 fun QQ hQQ => ?_
      obtain ⟨TD, am, au, mi, ui, em, eu, rfl, -, -, -, rfl, hmi, hui⟩ := hp9
      refine hQQ _ _ ?_
      clear hQQ QQ
      rw [pl_sld gs hi hfar hnp2 hnw2 hop2 how2] at hmi hui
      refine Y₁₁.stX (fun s₁₂ Y₁₂ => ?_) rfl rfl
      clear Y Y₁₁
      obtain ⟨m3, mt3, mf3, mse3, lj3, mkp3, Y⟩ : ∃ m3 : Str → Option Value, m3 (Str.ofString "told") = some (.ref TD) ∧ m3 (Str.ofString "first") = some (.ref FiD) ∧ m3 (Str.ofString "second") = some (.ref SeD) ∧ (m3 (Str.ofString "steps") = some (.ref as) ∧ m3 (Str.ofString "row") = some (.ref ar)) ∧ m3 (Str.ofString "kept") = some (.ref K) ∧ LS g L s m3 ((I, oI) :: (K, listOf (List.toArray kvs) ek) :: (B, listOf (List.toArray bvs) e) :: cellsL L o6' o5' o4' o3' o2 o1) ((TD, { cls := .type "tuple", data := .seq #[.ref am, .ref au] }) :: (au, listOf (List.toArray ui) eu) :: (am, listOf (List.toArray mi) em) :: (SeD, listOf (List.toArray ovs) fe2) :: (FiD, listOf (List.toArray nvs) fe) :: (OD, listOf (List.toArray ovs) oe) :: (ND, listOf (List.toArray nvs) ne) :: (FD, oF) :: imm₁) s₁₂ :=
        ⟨_, if_pos rfl, (if_neg (by decide)).trans mf, (if_neg (by decide)).trans mse, ⟨(if_neg (by decide)).trans lj2.ms, (if_neg (by decide)).trans lj2.mr⟩, (if_neg (by decide)).trans mkp2, Y₁₂⟩
      clear Y₁₂ mf mse mkp2
      have hosz : (List.toArray ovs).size = over.length := by rw [List.size_toArray, hOI.length, nI_len]
      have gF : ∀ s₇, KB [] s₁₂ s₇ → s₇.heap.IsList FD (List.toArray fys) := fun s₇ k => hFO.at (k.at0 (Y.st.news (FD, oF) (List.mem_append_right _ mk7)).1)
      have gODmissing : ∀ s₇, KB [] s₁₂ s₇ → s₇.heap.get? OD = some (listOf (List.toArray ovs) oe) := fun s₇ k => k.at0 (Y.st.news (OD, _) (List.mem_append_right _ mk5)).1
      have gAmissing : ∀ s₇, KB [] s₁₂ s₇ → s₇.heap.IsList ND (List.toArray nvs) := fun s₇ k => (LO.mk nvs ne).at (k.at0 (Y.st.news (ND, _) (List.mem_append_right _ mk6)).1)
      -- missing
      refine wpAny_execs_cons (LS_compA (g := g) (s₀ := s) (J := fun zs => IntsAre zs (nI (missL far near over near.length))) (cl := [(Str.ofString "over", L + 1 + 1 + 1 + 1 + 1 + 1), (Str.ofString "near", L + 1 + 1 + 1 + 1 + 1), (Str.ofString "far", L + 1 + 1 + 1 + 1)]) rfl (by with_unfolding_all rfl) (by decide) rfl (by decide) (fun _ => rfl) rfl rfl (Call_ (Y.st.ldB TT f1 Boot.«range» (by decide +kernel) (callWith_type1 (args_cons (Call_ (Y.st.ldB TT f4 Boot.«len» (by decide +kernel) (callWith_builtin1 (args_cons (Y.st.ldC (c := L + 1 + 1 + 1 + 1 + 1) rfl (List.mem_append_left _ mk4) d5' (args_nil (len_list (gAmissing _ (KB.refl _ _)) (by rw [hnsz]; omega) (args_nil (rangeV fun s₇ r7 t7 u7 v7 k₇ hr7 => ?_)))) rfl rfl) star_name) star_name plain_nil) rfl rfl (by decide))) star_call) star_call plain_nil) rfl rfl (by decide))))
      have k7' : KB [] s₁₂ s₇ := (KB.of fun b o _ q => q : KB [] s₁₂ _).trans k₇
      refine ⟨_, _, _, _, _, _, Y.kb k7', Src.rangeN rfl hr7 (by rw [hnsz]; omega), ?_, ?_⟩
      · intro I' fp St C D' s₅ c
        refine codeAny_mono (c.emits (fun j zs => IntsAre zs (nI (missL far near over j)) ∧ j ≤ near.length) ⟨.nil, Nat.zero_le _⟩ (fun j zs h => ?_) (turn_one ..) ?_) fun r s' hr => ?_
        · have h1 := h.1.length
          rw [nI_len] at h1
          have h2 := missL_len far near over j
          have := h.2
          omega
        · rintro j x zs s' mc E' hj ⟨tx, rfl⟩ hJ kb _ ns'
          rw [show (0 : Int) + (j : Int) = Int.ofNat j from Int.zero_add _]
          have hj' : j < near.length := by rw [← hnsz]; exact hj
          obtain ⟨xx, hxx⟩ : ∃ xx, near[j]? = some xx := ⟨near[j], by simp [hj']⟩
          have hgd : near.getD j 0 = xx := by simp [List.getD, hxx]
          obtain ⟨tx', htx⟩ := hNI.get j (Int.ofNat xx) (by simp [nI, hxx])
          refine cput rfl rfl ns' fun s₉ k₉ n₉ => ⟨k₉, ⟨_, n₉⟩, ?_⟩
          have kb9 : KB [] s₁₂ s₉ := k7'.trans (kb.fresh k₉ fun z hz => by rw [List.mem_singleton.mp hz]; exact c.fC)
          have Y₉ := Y.kb kb9
          have hs := missL_snoc far near over j
          rw [hgd] at hs
          have hx5 := hn5 xx (List.mem_of_getElem? hxx)
          obtain ⟨tf, htf⟩ := hfat xx hx5
          refine wpAny_tests_one (wpAny_isTrue_BoolOp (wpAny_allTrue_And_cons (wpAny_isTrue_Compare1 (Subscript_ (cldC rfl (by first | rfl | with_unfolding_all rfl) (show List.lookup (Str.ofString "far") [(Str.ofString "over", L + 1 + 1 + 1 + 1 + 1 + 1), (Str.ofString "near", L + 1 + 1 + 1 + 1 + 1), (Str.ofString "far", L + 1 + 1 + 1 + 1)] = some (L + 1 + 1 + 1 + 1) from rfl) (Y₉.at mk5) d4' (citem (vs := nvs) (v := .int (Int.ofNat xx) tx') (j := j) (Y₉.at mk4) d5' n₉ (if_pos rfl) (gAmissing s₉ kb9) htx (by omega) ?_ rfl (by first | rfl | with_unfolding_all rfl) (show List.lookup (Str.ofString "near") [(Str.ofString "over", L + 1 + 1 + 1 + 1 + 1 + 1), (Str.ofString "near", L + 1 + 1 + 1 + 1 + 1), (Str.ofString "far", L + 1 + 1 + 1 + 1)] = some (L + 1 + 1 + 1 + 1 + 1) from rfl) (by decide) rfl rfl (by decide)))))))
          refine item_in (v := .int (far xx) tf) (gF s₉ kb9) (Int.natCast_nonneg _) (by show ((xx : Nat) : Int) < 2 ^ 63; omega) (by show (List.toArray fys)[xx]? = _; simpa using htf) ?_ sub_sub
          refine wpAny_Constant_int (eq_int (wpAny_truthy_bool ?_))
          by_cases hc1 : far xx = 1
          · rw [if_pos (by simpa using hc1)]
            refine wpAny_allTrue_And_cons (wpAny_isTrue_BoolOp (wpAny_allTrue_Or_cons (wpAny_isTrue_Compare1 (MethodCall_ (cldC rfl (by first | rfl | with_unfolding_all rfl) (show List.lookup (Str.ofString "near") [(Str.ofString "over", L + 1 + 1 + 1 + 1 + 1 + 1), (Str.ofString "near", L + 1 + 1 + 1 + 1 + 1), (Str.ofString "far", L + 1 + 1 + 1 + 1)] = some (L + 1 + 1 + 1 + 1 + 1) from rfl) (Y₉.at mk4) d5' ?_)))))
            refine Y₉.tok.st.lmethod (List.mem_append_right _ mk6) PySem.F.slot_list_index PySem.F.type_list_index (callWith_method1 (args_cons (citem (vs := nvs) (v := .int (Int.ofNat xx) tx') (j := j) (Y₉.at mk4) d5' n₉ (if_pos rfl) (gAmissing s₉ kb9) htx (by omega) ?_ rfl (by first | rfl | with_unfolding_all rfl) (show List.lookup (Str.ofString "near") [(Str.ofString "over", L + 1 + 1 + 1 + 1 + 1 + 1), (Str.ofString "near", L + 1 + 1 + 1 + 1 + 1), (Str.ofString "far", L + 1 + 1 + 1 + 1)] = some (L + 1 + 1 + 1 + 1 + 1) from rfl) (by decide) rfl rfl (by decide)) star_sub) star_sub plain_nil)
            refine args_nil (indexK (ns := nI near) (gAmissing s₉ kb9) hNI (by rw [nI_len]; omega) (List.mem_map_of_mem (List.mem_of_getElem? hxx)) fun s₁₀ t10 k10 => ?_)
            have k10' : KB [] s₉ s₁₀ := (KB.of fun b o _ q => q : KB [] s₉ _).trans k10
            have Y₁₀ := Y₉.kb k10'
            have n₁₀ := k10'.ns (by simp) n₉
            refine cld rfl rfl n₁₀ (if_pos rfl) (eq_int (wpAny_truthy_bool ?_))
            rw [nI_idx]
            by_cases hc2 : near.idxOf xx = j
            · rw [if_pos (by simp [hc2]), if_pos rfl]
              refine wpAny_allTrue_And_nil ⟨k10', ?_⟩
              rw [if_pos rfl]
              refine citem (vs := nvs) (v := .int (Int.ofNat xx) tx') (j := j) (Y₁₀.at mk4) d5' n₁₀ (if_pos rfl) (gAmissing _ (kb9.trans k10')) htx (by omega) ⟨KB.refl _ _, ?_, hj'⟩ rfl (by first | rfl | with_unfolding_all rfl) (show List.lookup (Str.ofString "near") [(Str.ofString "over", L + 1 + 1 + 1 + 1 + 1 + 1), (Str.ofString "near", L + 1 + 1 + 1 + 1 + 1), (Str.ofString "far", L + 1 + 1 + 1 + 1)] = some (L + 1 + 1 + 1 + 1 + 1) from rfl) (by decide) rfl rfl (by decide)
              rw [hs, if_pos ⟨hc1, .inl hc2⟩, nI_snoc]
              exact hJ.1.append (.cons _ _ .nil)
            · have hc2' : ¬ ((near.idxOf xx : Nat) : Int) = (j : Int) := fun q => hc2 (by exact_mod_cast q)
              rw [if_neg (by simpa using hc2')]
              refine wpAny_allTrue_Or_cons (wpAny_isTrue_Compare1 (Call_ (cldB (TT.g.keeps Y₁₀.st.fr.keep) f5 (TT.b.keeps Y₁₀.st.fr.keep) ((TT.builtins _ (by decide +kernel)).trans Boot.«max») (callWith_builtin1 (args_cons (wpAny_BinOp (dispL (args_cons (UnaryOp_ (wpAny_Constant_int (neg_int (args_nil ⟨by simp; omega, fun s₁₁ D₁₁ k11 f11 d11 => ?_⟩)))) star_neg))) star_binop) star_binop plain_nil) rfl (by first | rfl | with_unfolding_all rfl))))
              have k11' : KB [] s₉ s₁₁ := k10'.trans ((KB.of fun b o _ q => q : KB [] s₁₀ _).trans k11)
              have Y₁₁ := Y₉.kb k11'
              refine cldC rfl (by first | rfl | with_unfolding_all rfl) (show List.lookup (Str.ofString "over") [(Str.ofString "over", L + 1 + 1 + 1 + 1 + 1 + 1), (Str.ofString "near", L + 1 + 1 + 1 + 1 + 1), (Str.ofString "far", L + 1 + 1 + 1 + 1)] = some (L + 1 + 1 + 1 + 1 + 1 + 1) from rfl) (Y₁₁.at mk3) d6' (addL (vs := [_]) (ws := ovs) d11 (gODmissing _ (kb9.trans k11')) (by simp [hOI.length, nI_len]; omega) fun s₁₂ D₁₂ k12 f12 d12 => ?_)
              refine args_nil (maxL (vs := _ :: ovs) rfl ⟨_, d12, rfl, _, rfl⟩ (.cons (-1) _ hOI) (by simp) fun s₁₃ M tM k13 hM1 hM2 => ?_)
              have k13' : KB [] s₉ s₁₃ := k11'.trans (k12.trans k13)
              have Y₁₃ := Y₉.kb k13'
              have n₁₃ := k13'.ns (by simp) n₉
              refine citem (vs := nvs) (v := .int (Int.ofNat xx) tx') (j := j) (Y₁₃.at mk4) d5' n₁₃ (if_pos rfl) (gAmissing _ (kb9.trans k13')) htx (by omega) (lt_int (wpAny_truthy_bool ?_)) rfl (by first | rfl | with_unfolding_all rfl) (show List.lookup (Str.ofString "near") [(Str.ofString "over", L + 1 + 1 + 1 + 1 + 1 + 1), (Str.ofString "near", L + 1 + 1 + 1 + 1 + 1), (Str.ofString "far", L + 1 + 1 + 1 + 1)] = some (L + 1 + 1 + 1 + 1 + 1) from rfl) (by decide) rfl rfl (by decide)
              have hM := max_lt hM1 hM2 xx
              by_cases hc3 : ∀ o ∈ over, o < xx
              · rw [if_pos (decide_eq_true (hM.mpr hc3)), if_pos rfl]
                refine wpAny_allTrue_And_nil ⟨k13', ?_⟩
                rw [if_pos rfl]
                refine citem (vs := nvs) (v := .int (Int.ofNat xx) tx') (j := j) (Y₁₃.at mk4) d5' n₁₃ (if_pos rfl) (gAmissing _ (kb9.trans k13')) htx (by omega) ⟨KB.refl _ _, ?_, hj'⟩ rfl (by first | rfl | with_unfolding_all rfl) (show List.lookup (Str.ofString "near") [(Str.ofString "over", L + 1 + 1 + 1 + 1 + 1 + 1), (Str.ofString "near", L + 1 + 1 + 1 + 1 + 1), (Str.ofString "far", L + 1 + 1 + 1 + 1)] = some (L + 1 + 1 + 1 + 1 + 1) from rfl) (by decide) rfl rfl (by decide)
                rw [hs, if_pos ⟨hc1, .inr hc3⟩, nI_snoc]
                exact hJ.1.append (.cons _ _ .nil)
              · rw [if_neg (fun q => hc3 (hM.mp (of_decide_eq_true q)))]
                refine wpAny_allTrue_Or_nil ?_
                rw [if_neg (by decide)]
                refine ⟨k13', ?_⟩
                rw [if_neg (by decide), hs, if_neg (fun q => q.2.elim hc2 hc3), List.append_nil]
                exact ⟨hJ.1, hj'⟩
          · rw [if_neg (by simpa using hc1)]
            refine ⟨KB.of fun b o _ q => q, ?_⟩
            rw [if_neg (by decide), hs, if_neg (fun q => hc1 q.1), List.append_nil]
            exact ⟨hJ.1, hj'⟩
        · obtain ⟨rfl, zs, a1, a2, a3, a4⟩ := hr
          rw [hnsz] at a4
          exact ⟨rfl, zs, a1, a2, a3, a4.1⟩
      intro MD mzs s₁₃ hMI YM
      obtain ⟨m4, mm4, mt4, mf4, mse4, lj4, mkp4, YM⟩ : ∃ m4 : Str → Option Value, m4 (Str.ofString "missing") = some (.ref MD) ∧ m4 (Str.ofString "told") = some (.ref TD) ∧ m4 (Str.ofString "first") = some (.ref FiD) ∧ m4 (Str.ofString "second") = some (.ref SeD) ∧ (m4 (Str.ofString "steps") = some (.ref as) ∧ m4 (Str.ofString "row") = some (.ref ar)) ∧ m4 (Str.ofString "kept") = some (.ref K) ∧ LS g L s m4 ((I, oI) :: (K, listOf (List.toArray kvs) ek) :: (B, listOf (List.toArray bvs) e) :: cellsL L o6' o5' o4' o3' o2 o1) ((MD, lsO mzs) :: (TD, { cls := .type "tuple", data := .seq #[.ref am, .ref au] }) :: (au, listOf (List.toArray ui) eu) :: (am, listOf (List.toArray mi) em) :: (SeD, listOf (List.toArray ovs) fe2) :: (FiD, listOf (List.toArray nvs) fe) :: (OD, listOf (List.toArray ovs) oe) :: (ND, listOf (List.toArray nvs) ne) :: (FD, oF) :: imm₁) s₁₃ :=
        ⟨_, if_pos rfl, (if_neg (by decide)).trans mt3, (if_neg (by decide)).trans mf3, (if_neg (by decide)).trans mse3, ⟨(if_neg (by decide)).trans lj3.1, (if_neg (by decide)).trans lj3.2⟩, (if_neg (by decide)).trans mkp3, YM⟩
      clear Y mt3 mf3 mse3 lj3 mkp3 gAmissing gODmissing gF
      have gNDbeyond : ∀ s₇, KB [] s₁₃ s₇ → s₇.heap.get? ND = some (listOf (List.toArray nvs) ne) := fun s₇ k => k.at0 (YM.st.news (ND, _) (List.mem_append_right _ mk7)).1
      have gBbeyond : ∀ s₇, KB [] s₁₃ s₇ → s₇.heap.IsList ND (List.toArray nvs) := fun s₇ k => (LO.mk nvs ne).at (gNDbeyond s₇ k)
      have gAbeyond : ∀ s₇, KB [] s₁₃ s₇ → s₇.heap.IsList OD (List.toArray ovs) := fun s₇ k => (LO.mk ovs oe).at (k.at0 (YM.st.news (OD, _) (List.mem_append_right _ mk6)).1)
      clear k7' hr7 k₇
      -- beyond
      refine wpAny_execs_cons (LS_compA (g := g) (s₀ := s) (J := fun zs => IntsAre zs (nI (beyL near over over.length))) (cl := [(Str.ofString "over", L + 1 + 1 + 1 + 1 + 1 + 1), (Str.ofString "near", L + 1 + 1 + 1 + 1 + 1)]) rfl (by with_unfolding_all rfl) (by decide) rfl (by decide) (fun _ => rfl) rfl rfl (Call_ (YM.st.ldB TT f1 Boot.«range» (by decide +kernel) (callWith_type1 (args_cons (Call_ (YM.st.ldB TT f4 Boot.«len» (by decide +kernel) (callWith_builtin1 (args_cons (YM.st.ldC (c := L + 1 + 1 + 1 + 1 + 1 + 1) rfl (List.mem_append_left _ mk3) d6' (args_nil (len_list (gAbeyond _ (KB.refl _ _)) (by rw [hosz]; omega) (args_nil (rangeV fun s₇ r7 t7 u7 v7 k₇ hr7 => ?_)))) rfl rfl) star_name) star_name plain_nil) rfl rfl (by decide))) star_call) star_call plain_nil) rfl rfl (by decide))))
      have k7' : KB [] s₁₃ s₇ := (KB.of fun b o _ q => q : KB [] s₁₃ _).trans k₇
      refine ⟨_, _, _, _, _, _, YM.kb k7', Src.rangeN rfl hr7 (by rw [hosz]; omega), ?_, ?_⟩
      · intro I' fp St C D' s₅ c
        refine codeAny_mono (c.emits (fun j zs => IntsAre zs (nI (beyL near over j)) ∧ j ≤ over.length) ⟨.nil, Nat.zero_le _⟩ (fun j zs h => ?_) (turn_one ..) ?_) fun r s' hr => ?_
        · have h1 := h.1.length
          rw [nI_len] at h1
          have h2 := beyL_len near over j
          have := h.2
          omega
        · rintro j x zs s' mc E' hj ⟨tx, rfl⟩ hJ kb _ ns'
          rw [show (0 : Int) + (j : Int) = Int.ofNat j from Int.zero_add _]
          have hj' : j < over.length := by rw [← hosz]; exact hj
          obtain ⟨xx, hxx⟩ : ∃ xx, over[j]? = some xx := ⟨over[j], by simp [hj']⟩
          have hgd : over.getD j 0 = xx := by simp [List.getD, hxx]
          obtain ⟨tx', htx⟩ := hOI.get j (Int.ofNat xx) (by simp [nI, hxx])
          refine cput rfl rfl ns' fun s₉ k₉ n₉ => ⟨k₉, ⟨_, n₉⟩, ?_⟩
          have kb9 : KB [] s₁₃ s₉ := k7'.trans (kb.fresh k₉ fun z hz => by rw [List.mem_singleton.mp hz]; exact c.fC)
          have Y₉ := YM.kb kb9
          have hs := beyL_snoc near over j
          rw [hgd] at hs
          refine wpAny_tests_one (wpAny_isTrue_BoolOp (wpAny_allTrue_And_cons (wpAny_isTrue_Compare1 (citem (vs := ovs) (v := .int (Int.ofNat xx) tx') (j := j) (Y₉.at mk3) d6' n₉ (if_pos rfl) (gAbeyond s₉ kb9) htx (by omega) (cldC rfl (by first | rfl | with_unfolding_all rfl) (show List.lookup (Str.ofString "near") [(Str.ofString "over", L + 1 + 1 + 1 + 1 + 1 + 1), (Str.ofString "near", L + 1 + 1 + 1 + 1 + 1)] = some (L + 1 + 1 + 1 + 1 + 1) from rfl) (Y₉.at mk4) d5' ?_) rfl (by first | rfl | with_unfolding_all rfl) (show List.lookup (Str.ofString "over") [(Str.ofString "over", L + 1 + 1 + 1 + 1 + 1 + 1), (Str.ofString "near", L + 1 + 1 + 1 + 1 + 1)] = some (L + 1 + 1 + 1 + 1 + 1 + 1) from rfl) (by decide) rfl rfl (by decide)))))
          refine notin_list_ints (gBbeyond s₉ kb9) hNI (wpAny_truthy_bool ?_)
          have hany : (nI near).any (· == Int.ofNat xx) = true ↔ xx ∈ near := by
            rw [List.any_eq_true]
            constructor
            · rintro ⟨z, hz, e⟩
              obtain ⟨q, hq, rfl⟩ := List.mem_map.mp hz
              have e' : Int.ofNat q = Int.ofNat xx := by simpa using e
              exact Int.ofNat.inj e' ▸ hq
            · intro h
              exact ⟨Int.ofNat xx, List.mem_map_of_mem h, by simp⟩
          by_cases hc1 : xx ∉ near
          · rw [if_pos (by rw [Bool.not_eq_true']; exact Bool.eq_false_iff.mpr fun q => hc1 (hany.mp q))]
            refine wpAny_allTrue_And_cons (wpAny_isTrue_BoolOp (wpAny_allTrue_Or_cons (wpAny_isTrue_Compare1 (MethodCall_ (cldC rfl (by first | rfl | with_unfolding_all rfl) (show List.lookup (Str.ofString "over") [(Str.ofString "over", L + 1 + 1 + 1 + 1 + 1 + 1), (Str.ofString "near", L + 1 + 1 + 1 + 1 + 1)] = some (L + 1 + 1 + 1 + 1 + 1 + 1) from rfl) (Y₉.at mk3) d6' ?_)))))
            refine Y₉.tok.st.lmethod (List.mem_append_right _ mk6) PySem.F.slot_list_index PySem.F.type_list_index (callWith_method1 (args_cons (citem (vs := ovs) (v := .int (Int.ofNat xx) tx') (j := j) (Y₉.at mk3) d6' n₉ (if_pos rfl) (gAbeyond s₉ kb9) htx (by omega) ?_ rfl (by first | rfl | with_unfolding_all rfl) (show List.lookup (Str.ofString "over") [(Str.ofString "over", L + 1 + 1 + 1 + 1 + 1 + 1), (Str.ofString "near", L + 1 + 1 + 1 + 1 + 1)] = some (L + 1 + 1 + 1 + 1 + 1 + 1) from rfl) (by decide) rfl rfl (by decide)) star_sub) star_sub plain_nil)
            refine args_nil (indexK (ns := nI over) (gAbeyond s₉ kb9) hOI (by rw [nI_len]; omega) (List.mem_map_of_mem (List.mem_of_getElem? hxx)) fun s₁₀ t10 k10 => ?_)
            have k10' : KB [] s₉ s₁₀ := (KB.of fun b o _ q => q : KB [] s₉ _).trans k10
            have Y₁₀ := Y₉.kb k10'
            have n₁₀ := k10'.ns (by simp) n₉
            refine cld rfl rfl n₁₀ (if_pos rfl) (eq_int (wpAny_truthy_bool ?_))
            rw [nI_idx]
            by_cases hc2 : over.idxOf xx = j
            · rw [if_pos (by simp [hc2]), if_pos rfl]
              refine wpAny_allTrue_And_nil ⟨k10', ?_⟩
              rw [if_pos rfl]
              refine citem (vs := ovs) (v := .int (Int.ofNat xx) tx') (j := j) (Y₁₀.at mk3) d6' n₁₀ (if_pos rfl) (gAbeyond _ (kb9.trans k10')) htx (by omega) ⟨KB.refl _ _, ?_, hj'⟩ rfl (by first | rfl | with_unfolding_all rfl) (show List.lookup (Str.ofString "over") [(Str.ofString "over", L + 1 + 1 + 1 + 1 + 1 + 1), (Str.ofString "near", L + 1 + 1 + 1 + 1 + 1)] = some (L + 1 + 1 + 1 + 1 + 1 + 1) from rfl) (by decide) rfl rfl (by decide)
              rw [hs, if_pos ⟨hc1, .inl hc2⟩, nI_snoc]
              exact hJ.1.append (.cons _ _ .nil)
            · have hc2' : ¬ ((over.idxOf xx : Nat) : Int) = (j : Int) := fun q => hc2 (by exact_mod_cast q)
              rw [if_neg (by simpa using hc2')]
              refine wpAny_allTrue_Or_cons (wpAny_isTrue_Compare1 (Call_ (cldB (TT.g.keeps Y₁₀.st.fr.keep) f5 (TT.b.keeps Y₁₀.st.fr.keep) ((TT.builtins _ (by decide +kernel)).trans Boot.«max») (callWith_builtin1 (args_cons (wpAny_BinOp (dispL (args_cons (UnaryOp_ (wpAny_Constant_int (neg_int (args_nil ⟨by simp; omega, fun s₁₁ D₁₁ k11 f11 d11 => ?_⟩)))) star_neg))) star_binop) star_binop plain_nil) rfl (by first | rfl | with_unfolding_all rfl))))
              have k11' : KB [] s₉ s₁₁ := k10'.trans ((KB.of fun b o _ q => q : KB [] s₁₀ _).trans k11)
              have Y₁₁ := Y₉.kb k11'
              refine cldC rfl (by first | rfl | with_unfolding_all rfl) (show List.lookup (Str.ofString "near") [(Str.ofString "over", L + 1 + 1 + 1 + 1 + 1 + 1), (Str.ofString "near", L + 1 + 1 + 1 + 1 + 1)] = some (L + 1 + 1 + 1 + 1 + 1) from rfl) (Y₁₁.at mk4) d5' (addL (vs := [_]) (ws := nvs) d11 (gNDbeyond _ (kb9.trans k11')) (by simp [hNI.length, nI_len]; omega) fun s₁₂ D₁₂ k12 f12 d12 => ?_)
              refine args_nil (maxL (vs := _ :: nvs) rfl ⟨_, d12, rfl, _, rfl⟩ (.cons (-1) _ hNI) (by simp) fun s₁₃ M tM k13 hM1 hM2 => ?_)
              have k13' : KB [] s₉ s₁₃ := k11'.trans (k12.trans k13)
              have Y₁₃ := Y₉.kb k13'
              have n₁₃ := k13'.ns (by simp) n₉
              refine citem (vs := ovs) (v := .int (Int.ofNat xx) tx') (j := j) (Y₁₃.at mk3) d6' n₁₃ (if_pos rfl) (gAbeyond _ (kb9.trans k13')) htx (by omega) (lt_int (wpAny_truthy_bool ?_)) rfl (by first | rfl | with_unfolding_all rfl) (show List.lookup (Str.ofString "over") [(Str.ofString "over", L + 1 + 1 + 1 + 1 + 1 + 1), (Str.ofString "near", L + 1 + 1 + 1 + 1 + 1)] = some (L + 1 + 1 + 1 + 1 + 1 + 1) from rfl) (by decide) rfl rfl (by decide)
              have hM := max_lt hM1 hM2 xx
              by_cases hc3 : ∀ o ∈ near, o < xx
              · rw [if_pos (decide_eq_true (hM.mpr hc3)), if_pos rfl]
                refine wpAny_allTrue_And_nil ⟨k13', ?_⟩
                rw [if_pos rfl]
                refine citem (vs := ovs) (v := .int (Int.ofNat xx) tx') (j := j) (Y₁₃.at mk3) d6' n₁₃ (if_pos rfl) (gAbeyond _ (kb9.trans k13')) htx (by omega) ⟨KB.refl _ _, ?_, hj'⟩ rfl (by first | rfl | with_unfolding_all rfl) (show List.lookup (Str.ofString "over") [(Str.ofString "over", L + 1 + 1 + 1 + 1 + 1 + 1), (Str.ofString "near", L + 1 + 1 + 1 + 1 + 1)] = some (L + 1 + 1 + 1 + 1 + 1 + 1) from rfl) (by decide) rfl rfl (by decide)
                rw [hs, if_pos ⟨hc1, .inr hc3⟩, nI_snoc]
                exact hJ.1.append (.cons _ _ .nil)
              · rw [if_neg (fun q => hc3 (hM.mp (of_decide_eq_true q)))]
                refine wpAny_allTrue_Or_nil ?_
                rw [if_neg (by decide)]
                refine ⟨k13', ?_⟩
                rw [if_neg (by decide), hs, if_neg (fun q => q.2.elim hc2 hc3), List.append_nil]
                exact ⟨hJ.1, hj'⟩
          · rw [if_neg (fun q => hc1 fun z => by rw [Bool.not_eq_true'] at q; exact Bool.eq_false_iff.mp q (hany.mpr z))]
            refine ⟨KB.of fun b o _ q => q, ?_⟩
            rw [if_neg (by decide), hs, if_neg (fun q => hc1 q.1), List.append_nil]
            exact ⟨hJ.1, hj'⟩
        · obtain ⟨rfl, zs, a1, a2, a3, a4⟩ := hr
          rw [hosz] at a4
          exact ⟨rfl, zs, a1, a2, a3, a4.1⟩
      intro BD bzs s₁₄ hBI YB
      obtain ⟨m5, mb5, mm5, mt5, mf5, mse5, lj5, mkp5, Y⟩ : ∃ m5 : Str → Option Value, m5 (Str.ofString "beyond") = some (.ref BD) ∧ m5 (Str.ofString "missing") = some (.ref MD) ∧ m5 (Str.ofString "told") = some (.ref TD) ∧ m5 (Str.ofString "first") = some (.ref FiD) ∧ m5 (Str.ofString "second") = some (.ref SeD) ∧ (m5 (Str.ofString "steps") = some (.ref as) ∧ m5 (Str.ofString "row") = some (.ref ar)) ∧ m5 (Str.ofString "kept") = some (.ref K) ∧ LS g L s m5 ((I, oI) :: (K, listOf (List.toArray kvs) ek) :: (B, listOf (List.toArray bvs) e) :: cellsL L o6' o5' o4' o3' o2 o1) ((BD, lsO bzs) :: (MD, lsO mzs) :: (TD, { cls := .type "tuple", data := .seq #[.ref am, .ref au] }) :: (au, listOf (List.toArray ui) eu) :: (am, listOf (List.toArray mi) em) :: (SeD, listOf (List.toArray ovs) fe2) :: (FiD, listOf (List.toArray nvs) fe) :: (OD, listOf (List.toArray ovs) oe) :: (ND, listOf (List.toArray nvs) ne) :: (FD, oF) :: imm₁) s₁₄ :=
        ⟨_, if_pos rfl, (if_neg (by decide)).trans mm4, (if_neg (by decide)).trans mt4, (if_neg (by decide)).trans mf4, (if_neg (by decide)).trans mse4, ⟨(if_neg (by decide)).trans lj4.1, (if_neg (by decide)).trans lj4.2⟩, (if_neg (by decide)).trans mkp4, YB⟩
      clear YM mm4 mt4 mf4 mse4 lj4 mkp4 gAbeyond gBbeyond gNDbeyond
      clear k7' hr7 k₇
      -- if
      refine wpAny_execs_cons (wpAny_If (wpAny_isTrue_BoolOp (wpAny_allTrue_Or_cons (wpAny_isTrue_Compare1 (Y.st.ldX mt5 (wpAny_Tuple_spliced (args_cons (Y.st.ldX mm5 (args_cons (Y.st.ldX mb5 (args_nil ⟨by simp; omega, ?_⟩) rfl rfl) star_name) rfl rfl) star_name)) rfl rfl)))))
      have kp3 : KB [] s₁₄ { s₁₄ with heap := s₁₄.heap.push { cls := .type "tuple", data := .seq #[.ref MD, .ref BD] } } := KB.of (tk := s₁₄.toks) fun b o _ q => Heap.get?_push_of_some _ q
      have Y₁₅ := Y.kb kp3
      refine nePairs (a1 := am) (a2 := au) (b1 := MD) (b2 := BD) (ns1 := nI (missL far near over near.length)) (ns2 := nI (beyL near over over.length)) ⟨_, (Y₁₅.st.news (TD, _) (List.mem_append_right _ mk2)).1, rfl, _, rfl⟩ ⟨_, Heap.get?_push_size _ rfl, rfl, _, rfl⟩ ⟨mi, (LO.mk _ _).at (Y₁₅.st.news (am, _) (List.mem_append_right _ mk4)).1, hmi⟩ ⟨ui, (LO.mk _ _).at (Y₁₅.st.news (au, _) (List.mem_append_right _ mk3)).1, hui⟩
        ⟨mzs, (LO.mk _ _).at (Y₁₅.st.news (MD, _) (List.mem_append_right _ mk1)).1, hMI⟩ ⟨bzs, (LO.mk _ _).at (Y₁₅.st.news (BD, _) (List.mem_append_right _ mk0)).1, hBI⟩ (by show 7 + 64 < cLine; decide) rfl rfl (wpAny_truthy_bool ?_)
      rw [if_neg (by decide)]
      refine wpAny_allTrue_Or_cons (wpAny_isTrue_Compare1 (Y₁₅.st.ldX mf5 (Y₁₅.st.ldC (c := L + 1 + 1 + 1 + 1 + 1) rfl (List.mem_append_left _ mk4) d5' (neList (ns := nI near) ⟨nvs, (LO.mk _ _).at (Y₁₅.st.news (FiD, _) (List.mem_append_right _ mk6)).1, hNI⟩ ⟨nvs, (LO.mk _ _).at (Y₁₅.st.news (ND, _) (List.mem_append_right _ mk8)).1, hNI⟩ (by show 7 + 64 < cLine; decide) rfl (wpAny_truthy_bool ?_)) rfl rfl) rfl rfl))
      rw [if_neg (by decide)]
      refine wpAny_allTrue_Or_cons (wpAny_isTrue_Compare1 (Y₁₅.st.ldX mse5 (Y₁₅.st.ldC (c := L + 1 + 1 + 1 + 1 + 1 + 1) rfl (List.mem_append_left _ mk3) d6' (neList (ns := nI over) ⟨ovs, (LO.mk _ _).at (Y₁₅.st.news (SeD, _) (List.mem_append_right _ mk5)).1, hOI⟩ ⟨ovs, (LO.mk _ _).at (Y₁₅.st.news (OD, _) (List.mem_append_right _ mk7)).1, hOI⟩ (by show 7 + 64 < cLine; decide) rfl (wpAny_truthy_bool ?_)) rfl rfl) rfl rfl))
      rw [if_neg (by decide)]
      refine wpAny_allTrue_Or_nil ?_
      rw [if_neg (by decide)]
      refine wpAny_execs_nil ?_
      dsimp only
      clear kp3 Y hBI hMI hui
      revert Y₁₅
      generalize ({ s₁₄ with heap := s₁₄.heap.push { cls := .type "tuple", data := .seq #[.ref MD, .ref BD] } } : Shared) = s₁₅
      intro Y₁₅
      -- kept.extend
      refine wpAny_execs_cons (wpAny_Expr_any (MethodCall_ (Y₁₅.st.ldX mkp5 ?_ rfl rfl)) rfl rfl)
      refine Y₁₅.st.lmethod (List.mem_append_left _ mk1) PySem.F.slot_list_extend PySem.F.type_list_extend (callWith_method1 (args_cons ?_ star_comp) star_comp plain_nil)
      refine compEH (J := fun I' C D zs h => ∃ tl, (∀ p ∈ tl, h.get? p.1 = some p.2 ∧ p.1 ≠ C ∧ s₁₅.heap.get? p.1 = none) ∧ Hold tl (fun h => StepsAre h zs ((missL far near over near.length).map fun l => (i, l, 1)))) (cl := [(Str.ofString "name", L + 1 + 1 + 1)]) (by with_unfolding_all rfl) (by decide) rfl (by decide) (fun _ => rfl) (Subscript_ (Y₁₅.st.ldX mt5 (wpAny_Constant_int ?_) rfl rfl))
      refine tupItem (v := .ref am) (items := #[.ref am, .ref au]) ⟨_, (Y₁₅.st.news (TD, _) (List.mem_append_right _ mk2)).1, rfl, _, rfl⟩ (by decide) (by decide) rfl ?_ sub_const
      have Y₁₆ := Y₁₅.tok (tk := s₁₅.toks + 1)
      have hmsz : (List.toArray mi).size = (missL far near over near.length).length := by rw [List.size_toArray, hmi.length, nI_len]
      have hmlen := missL_len far near over near.length
      have k156 : KB [] s₁₅ { s₁₅ with toks := s₁₅.toks + 1 } := KB.of fun b o _ q => q
      refine ⟨_, _, _, Src.list (its := List.toArray mi) rfl ((LO.mk mi em).at (Y₁₆.st.news (am, _) (List.mem_append_right _ mk4)).1), ?_, ?_⟩
      · intro I' fp St C D' s₅ c
        have hCI : C ≠ I' := fun q => c.hC (q ▸ c.walks.sub I' (List.mem_singleton.mpr rfl))
        refine codeAny_mono (c.emitsH (fun k zs h => ∃ tl, (∀ p ∈ tl, h.get? p.1 = some p.2 ∧ p.1 ≠ I' ∧ p.1 ≠ C ∧ p.1 ≠ D' ∧ s₁₅.heap.get? p.1 = none) ∧ Hold tl (fun h => StepsAre h zs (((missL far near over near.length).take k).map fun l => (i, l, 1))) ∧ zs.length = k ∧ k ≤ 18) (fun k zs h h' q hh => ?_) ⟨[], fun p hp => (by cases hp), fun h _ => .nil, rfl, Nat.zero_le _⟩ (fun k zs h hh => ?_) (turn_one ..) ?_) fun r s' hr => ?_
        · obtain ⟨tl, h1, h2, h3⟩ := hh
          refine ⟨tl, fun p hp => ?_, h2, h3⟩
          obtain ⟨a1, a2, a3, a4, a5⟩ := h1 p hp
          exact ⟨q _ _ (by simp only [List.mem_cons, List.not_mem_nil, or_false, not_or]; exact ⟨a2, a4⟩) a1, a2, a3, a4, a5⟩
        · obtain ⟨tl, h1, h2, h3, h4⟩ := hh
          omega
        · rintro k x zs s' mc E' hk hP ⟨tl, h1, h2, h3, h4⟩ kb _ ns' hD ⟨oI', hI'⟩
          have hk' : k < (missL far near over near.length).length := by rw [← hmsz]; exact hk
          obtain ⟨ml, hml⟩ : ∃ ml, (missL far near over near.length)[k]? = some ml := ⟨(missL far near over near.length)[k], by simp [hk']⟩
          obtain ⟨tm, htm⟩ := hmi.get k (Int.ofNat ml) (by simp [nI, hml])
          have hx : x = .int (Int.ofNat ml) tm := by
            have hP' : mi[k]? = some x := by simpa using hP
            rw [htm] at hP'; exact (Option.some.inj hP').symm
          subst hx
          refine cput rfl rfl ns' fun s₉ k₉ n₉ => ⟨k₉, ⟨_, n₉⟩, wpAny_tests_nil ⟨KB.refl _ _, ?_⟩⟩
          rw [if_pos rfl]
          have kb9 : KB [] s₁₅ s₉ := k156.trans (kb.fresh k₉ fun z hz => by rw [List.mem_singleton.mp hz]; exact c.fC)
          have Y₉ := Y₁₅.kb kb9
          refine wpAny_Tuple_spliced (args_cons (cldC rfl (by first | rfl | with_unfolding_all rfl) (show List.lookup (Str.ofString "name") [(Str.ofString "name", L + 1 + 1 + 1)] = some (L + 1 + 1 + 1) from rfl) (Y₉.at mk6) d3' (args_cons (cld rfl rfl n₉ (if_pos rfl) (args_cons (wpAny_Constant_int (args_nil ⟨by simp; omega, ?_⟩)) star_const)) star_name)) star_name)
          refine ⟨KB.of fun b o _ q => Heap.get?_push_of_some _ q, (s₉.heap.objs.size, { cls := .type "tuple", data := .seq #[.int (Int.ofNat i) tv, .int (Int.ofNat ml) tm, .int 1 s₉.toks] }) :: tl, fun p hp => ?_, fun h hh => ?_, ?_, ?_⟩
          · rcases List.mem_cons.mp hp with rfl | hp
            · refine ⟨Heap.get?_push_size _ rfl, ?_, ?_, ?_, ?_⟩
              · exact Nat.ne_of_gt (Heap.lt_size (k₉.at (by simpa using Ne.symm hCI) hI'))
              · obtain ⟨oC, es, ep, hC, _⟩ := n₉
                exact Nat.ne_of_gt (Heap.lt_size hC)
              · exact Nat.ne_of_gt (Heap.lt_size (k₉.at (by simpa using Ne.symm c.hCD) hD))
              · cases q : s₁₅.heap.get? s₉.heap.objs.size with
                | none => rfl
                | some o => have := kb9.at0 q; rw [none_at] at this; cases this
            · obtain ⟨a1, a2, a3, a4, a5⟩ := h1 p hp
              exact ⟨Heap.get?_push_of_some _ (k₉.at (by simpa using a3) a1), a2, a3, a4, a5⟩
          · rw [List.take_add_one, hml, List.map_append]
            refine (h2 h fun p hp => hh p (.tail _ hp)).append ?_
            exact .cons ⟨_, hh _ (.head _), rfl, _, rfl⟩ .nil
          · rw [List.length_append, h3]; rfl
          · omega
        · obtain ⟨rfl, zs, a1, a2, a3, tl, h1, h2, h3, h4⟩ := hr
          rw [hmsz, List.take_length] at h2
          exact ⟨rfl, zs, a1, a2, a3, tl, fun p hp => ⟨(h1 p hp).1, (h1 p hp).2.2.1, (h1 p hp).2.2.2.2⟩, h2⟩
      rintro I' C KD zs hh s₁₇ ⟨tl, h1, h2⟩ hkeep kb fD dD
      have Y₁₇ := Y₁₆.addL kb (tl := tl) fun p hp => ⟨(h1 p hp).2.2, hkeep _ _ (h1 p hp).2.1 (h1 p hp).1⟩
      have hkl := (Y₁₅.hold (hkv2.mono fun p hp => .tail _ (.tail _ (.tail _ (.tail _ (.tail _ hp)))))).length
      have hzl := (Y₁₇.hold (h2.mono fun p hp => List.mem_append_left _ hp)).length
      rw [List.length_map] at hzl
      have hk18 : kept.length ≤ 18 := by
        have := kp.len
        have := flat_mono (nearL sts) (Nat.le_of_lt hi)
        have := (pl_near gs).1
        omega
      refine args_nil ?_
      refine LS.extL Y₁₇ dD (updF_of [_] [_, _, _, _, _, _, _] Y₁₇.nod) (by rw [List.size_toArray, List.size_toArray]; omega) fun s₁₈ Y₁₈ => ?_
      rw [List.append_toArray] at Y₁₈
      have hmf : ∀ p ∈ (SeD, listOf (List.toArray ovs) fe2) :: (FiD, listOf (List.toArray nvs) fe) :: (OD, listOf (List.toArray ovs) oe) :: (ND, listOf (List.toArray nvs) ne) :: (FD, oF) :: imm₁, p ∈ tl ++ ((BD, lsO bzs) :: (MD, lsO mzs) :: (TD, { cls := .type "tuple", data := .seq #[.ref am, .ref au] }) :: (au, listOf (List.toArray ui) eu) :: (am, listOf (List.toArray mi) em) :: (SeD, listOf (List.toArray ovs) fe2) :: (FiD, listOf (List.toArray nvs) fe) :: (OD, listOf (List.toArray ovs) oe) :: (ND, listOf (List.toArray nvs) ne) :: (FD, oF) :: imm₁) := fun p hp => List.mem_append_right _ (.tail _ (.tail _ (.tail _ (.tail _ (.tail _ hp)))))
      refine wpAny_execs_nil (hQT .next _ ⟨m5, _, _, ⟨o6', o5', o4', o3', o2, o1, bvs, e, kvs ++ zs, _, kept ++ (missL far near over near.length).map fun l => (i, l, 1), rfl, { d6 := lj2.d6, d5 := lj2.d5, d4 := lj2.d4, d3 := lj2.d3, d2 := lj2.d2, ms := lj5.1, mr := lj5.2, hs := lj2.hs.mono hmf, hr := lj2.hr.mono hmf, bl := lj2.bl, bv := fun j hj => let ⟨a, q1, q2⟩ := lj2.bv j hj; ⟨a, q1, q2.mono hmf⟩ }, pl_kp gs hi hfar hnp2 kp, fun h hh => ?_, mkp5⟩, Y₁₈⟩)
      exact (hkv2.mono hmf h hh).append (h2 h fun p hp => hh p (List.mem_append_left _ hp))
    · rintro m' _ imm' s' ⟨o6, o5, o4, o3, o2, o1, bvs, e, kvs, ek, kept, rfl, lj, kp, hkv, mkp⟩ Y
      exact ⟨rfl, m', imm', o6, o5, o4, o3, o2, o1, bvs, e, kvs, ek, kept, Y, lj, kp, hkv, mkp⟩
  clear Y₃ lj3 KP0 mk3'
  intro s₂ hJ9
  refine hide fun GG hGG => ?_
  obtain ⟨m, imm, o6, o5, o4, o3, o2, o1, bvs, e, kvs, ek, kept, Y, lj, kp, hkv, mkp⟩ := hJ9
  refine hGG ?_
  clear hGG GG
  have hs5 : ∀ p ∈ sts, p.1 < 5 ∧ p.2.1 < 5 ∧ p.2.2 ≤ 3 := fun p hp => by
    obtain ⟨a, b, h1, h2, h3, h4, h5, h6⟩ := gs.st p hp
    rw [h3, h4]; exact ⟨gs.lt a (by omega), gs.lt b h2, h6⟩
  have hk5 : ∀ p ∈ kept, p.1 < 5 ∧ p.2.1 < 5 ∧ p.2.2 ≤ 3 := fun p hp => by
    obtain ⟨h1, h2, ⟨n, hn, hm⟩, h4⟩ := (kp.mem p).mp hp
    exact ⟨h1, (hs5 _ hm).2.1, by omega⟩
  obtain ⟨rk, hrk⟩ := pl_rk gs
  have hrk' : ∀ p ∈ kept, rk p.1 < rk p.2.1 := fun p hp => hrk _ _ ((kp.mem p).mp hp).2.2.1
  have hk18 : kept.length ≤ 30 := by
    have := kp.len
    have := (pl_near gs).1
    omega
  refine execs_mid (fun s' => ∃ h tk, s' = { s with heap := h, toks := tk } ∧ g.StaysIn h) (wpAny_For (LS_range Y TT f1 ?_ rfl rfl)) ?_
  · intro s₁₀ r t10 u10 v10 k10 hr10
    refine LS.forR (n := 5) (Src.range (n := 5) rfl hr10 (by decide) (by decide)) (fun _ => LJ3 L K B as ar sts rw' bvs e kvs ek kept) (Y.kb k10) ⟨_, _, _, _, _, _, rfl, lj, hkv, mkp⟩ ?_ ?_
    · clear Y lj hkv mkp hr10 k10
      rintro I oI i _ m₁ mu₁ imm₁ s₁ hi ⟨tv, rfl⟩ hJ9 Y
      refine turn_veil fun QT ET hQT hET => hide fun GG hGG => ?_
      obtain ⟨o6, o5, o4, o3, o2, o1, rfl, lj, hkv, mkp⟩ := hJ9
      refine hGG ?_
      clear hGG GG
      rw [show (0 : Int) + (i : Int) = Int.ofNat i from Int.zero_add _]
      obtain ⟨v3, d3⟩ := lj.d3
      refine wpAny_assign_Name (Y.stC (c := L + 1 + 1 + 1) rfl (updF_of [_, _, _, _, _, _] [_, _] Y.nod) d3 (fun s₂ o3' Y₂ d3' => ?_) rfl rfl)
      clear Y
      refine wpAny_execs_cons (wpAny_If (wpAny_isTrue_Compare1 (LS_defc Y₂ G (by k_is) (by k_is) (args_cons (Y₂.st.ldX mkp (args_cons (Y₂.st.ldC (c := L + 1 + 1 + 1) rfl (List.mem_append_left _ mk6) d3' (args_nil ⟨Y₂.st.fr.keep, ?_⟩) rfl rfl) star_name) rfl rfl) star_name) rfl rfl (by decide) star_name)))
      refine LS.call Y₂ (law_run_spec w K kept hk5 hk18 i tv hi rk hrk') G rfl rfl (fun g' st' hh => ⟨kvs, (LO.mk _ _).at (hh (K, _) (List.mem_append_left _ mk1)), hkv g' fun p hp => hh p (List.mem_append_right _ hp)⟩) ?_
      intro vv s₅ pst hp9 Y₅
      refine hide2 fun QQ hQQ => ?_
      obtain ⟨OD, oys, oe, ons, rfl, rfl, hOI, hop, how⟩ := hp9
      refine hQQ _ _ ?_
      clear hQQ QQ
      have hons := pl_end gs hi kp hop how
      subst hons
      clear hop how Y₂
      obtain ⟨ba, hba, hbh⟩ := lj.bv i hi
      have hmono : ∀ p ∈ imm₁, p ∈ [(OD, listOf (List.toArray oys) oe)] ++ imm₁ := fun p hp => List.mem_append_right _ hp
      refine compE (J := fun zs => IntsAre zs (nI ((List.range 5).filter fun k => decide (k ∉ bhL sts i)))) (cl := [(Str.ofString "name", L + 1 + 1 + 1), (Str.ofString "behinds", L + 1 + 1)]) (by with_unfolding_all rfl) (by decide) rfl (by decide) (fun _ => rfl) (LS_range Y₅ TT f1 ?_ rfl rfl)
      intro s₇ r7 t7 u7 v7 k₇ hr7
      have Y₇ := Y₅.kb k₇
      refine ⟨_, _, _, Src.range (n := 5) rfl hr7 (by decide) (by decide), ?_, ?_⟩
      · intro I' fp St C D' s₈ c
        refine codeAny_mono (c.emits (fun j zs => IntsAre zs (nI ((List.range j).filter fun k => decide (k ∉ bhL sts i))) ∧ j ≤ 5) ⟨.nil, by decide⟩ (fun j zs h => ?_) (turn_one ..) ?_) fun r s' hr => ?_
        · have := h.1.length
          rw [nI_len] at this
          have h2 := filt_len (fun k => decide (k ∉ bhL sts i)) j
          have := h.2
          omega
        · rintro j x zs s' mc E' hj ⟨tx, rfl⟩ hJ kb _ ns'
          rw [show (0 : Int) + (j : Int) = Int.ofNat j from Int.zero_add _]
          refine cput rfl rfl ns' fun s₉ k₉ n₉ => ⟨k₉, ⟨_, n₉⟩, ?_⟩
          have kb9 := kb.fresh k₉ fun z hz => by rw [List.mem_singleton.mp hz]; exact c.fC
          have Y₉ := Y₇.kb kb9
          obtain ⟨bzs, hbl, hbI⟩ := Y₉.hold (hbh.mono hmono)
          refine wpAny_tests_one (wpAny_isTrue_Compare1 (cld rfl rfl n₉ (if_pos rfl) (Subscript_ (cldC rfl (by first | rfl | with_unfolding_all rfl) (show List.lookup (Str.ofString "behinds") [(Str.ofString "name", L + 1 + 1 + 1), (Str.ofString "behinds", L + 1 + 1)] = some (L + 1 + 1) from rfl) (Y₉.at mk7) lj.d2 (cldC rfl (by first | rfl | with_unfolding_all rfl) (show List.lookup (Str.ofString "name") [(Str.ofString "name", L + 1 + 1 + 1), (Str.ofString "behinds", L + 1 + 1)] = some (L + 1 + 1 + 1) from rfl) (Y₉.at mk6) d3' ?_)))))
          refine item_in (v := .ref ba) ((LO.mk bvs e).at (Y₉.at mk2)) (Int.natCast_nonneg _) (by show ((i : Nat) : Int) < 2 ^ 63; omega) (by show (List.toArray bvs)[i]? = _; simpa using hba) ?_ sub_name
          refine notin_list_ints hbl hbI (wpAny_truthy_bool ⟨KB.refl _ _, ?_⟩)
          have hany : (nI (bhL sts i)).any (· == Int.ofNat j) = true ↔ j ∈ bhL sts i := by
            rw [List.any_eq_true]
            constructor
            · rintro ⟨z, hz, e⟩
              obtain ⟨q, hq, rfl⟩ := List.mem_map.mp hz
              have e' : Int.ofNat q = Int.ofNat j := by simpa using e
              exact Int.ofNat.inj e' ▸ hq
            · intro h
              exact ⟨Int.ofNat j, List.mem_map_of_mem h, by simp⟩
          have hj5 : j < 5 := hj
          by_cases hc : j ∉ bhL sts i
          · rw [if_pos (by rw [Bool.not_eq_true']; exact Bool.eq_false_iff.mpr fun q => hc (hany.mp q))]
            refine cld rfl rfl n₉ (if_pos rfl) ⟨KB.refl _ _, ?_, hj5⟩
            rw [filt_snoc, if_pos (by simpa using hc), nI_snoc]
            exact hJ.1.append (.cons _ _ .nil)
          · rw [if_neg (fun q => hc fun z => by rw [Bool.not_eq_true'] at q; exact Bool.eq_false_iff.mp q (hany.mpr z))]
            refine ⟨?_, hj5⟩
            rw [filt_snoc, if_neg (by simpa using hc), List.append_nil]
            exact hJ.1
        · obtain ⟨rfl, zs, a1, a2, a3, a4⟩ := hr
          exact ⟨rfl, zs, a1, a2, a3, a4.1⟩
      intro D₈ zs s₈ hJ8 kb8 fD8 dD8
      have Y₈ := (Y₇.kb kb8)
      refine neList (ns := nI ((List.range 5).filter fun k => decide (k ∉ bhL sts i))) ⟨oys, (LO.mk oys oe).at (Y₈.st.news (OD, _) (List.mem_append_right _ mk0)).1, hOI⟩ ⟨zs, (LO.mk _ _).at dD8, hJ8⟩ (by show 7 + 64 < cLine; decide) rfl (wpAny_truthy_bool ?_)
      rw [if_neg (by decide)]
      refine wpAny_execs_nil ?_
      dsimp only
      exact wpAny_execs_nil (hQT .next _ ⟨m₁, _, _, ⟨o6, o5, o4, o3', o2, o1, rfl, { lj with d3 := ⟨_, d3'⟩, hs := lj.hs.mono hmono, hr := lj.hr.mono hmono, bv := fun j hj => let ⟨a, q1, q2⟩ := lj.bv j hj; ⟨a, q1, q2.mono hmono⟩ }, hkv.mono hmono, mkp⟩, Y₈⟩)
    · rintro m' _ imm' s' _ Y
      obtain ⟨h, tk', frs, rfl, _, _, hF, _⟩ := Y.st
      exact ⟨rfl, h, tk', rfl, hF.keep⟩
  · rintro _ ⟨h, tk', rfl, hst⟩
    exact wpAny_execs_cons (wpAny_Return_some (wpAny_Constant_bool (hR h tk' hst)))
end Mine
end PartLa

section PartFin
theorem Mine.anewFin : True := by
  w_top off
  trivial
open PySem PySem.W PySem.Calls PyProof.Rows
set_option Elab.async false
namespace Mine
set_option maxRecDepth 100000
set_option maxHeartbeats 8000000
theorem callerA_is : callerA = AA 301 4 [] := rfl
theorem fin : PySem.Challenge.rw_mg0051_01.Holds := by
  refine hd ?_
  intro w s₀ s₁ mg mb G Y fa o pm cd doc dV kV ho hd hcd hD hmg hg args vals as hpre hlay hrd hwl hlo
  have KX := kIn_of Y
  refine Ground.open G ?_
  intro T B D TE TW
  clear hd hcd hD
  have hfa : Value.ref fa = Value.ref 175 := by
    have := mg_of (n := Str.ofString "law") (v := .ref 175) KX (Top.g T) (by kernel_rfl)
    exact Option.some.inj (hmg.symm.trans this)
  clear hmg
  rw [hfa]
  clear hfa
  have GD : Gd w s₁.heap := ⟨KX, _, _, _, T⟩
  wrow_args hpre hlay hrd hwl hlo
  refine enter_call ?_
  rw [callerA_is]
  rename IntsAre _ _ => hI
  rename Heap.IsList _ _ _ => hL
  rename ¬ _ < _ => hlen
  refine law_code w s₁.heap _ _ ?_ s₁ _ GD ⟨_, hL, hI⟩ (fun b o e => e) (Nat.le_refl _) fun h' tk st => ?_
  · omega
  refine GoodW.toG ⟨.inl ⟨_, .bool true, [], rfl, ?_, .bool true, ?_, fun _ => ⟨.nil, fun a ha => by cases ha⟩⟩, st, rfl, hg⟩
  · refine' raisesW_false ?zn
    wrow_none_raised
  · refine' postW_of ?zs ?zv ?ze
    (case zs => o_shape)
    (case zv => wtm_val)
    (case ze => w_fin)
end Mine
end PartFin

theorem PySem.Challenge.cw_mg0051_01_holds : PySem.Challenge.rw_mg0051_01.Holds :=
  Mine.fin
