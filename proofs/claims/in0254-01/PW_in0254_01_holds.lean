import PyProof.Rows.All
import Wide.All
import OpenK.AllK
import Wide.FinOn
import KE.KPairComp
import PySem.Challenge.RW_in0254_01
set_option Elab.async false
set_option compiler.extract_closed false
namespace Mine
section
open PySem PySem.W PyProof.Rows
set_option Elab.async false
set_option maxRecDepth 1000000
set_option maxHeartbeats 0
section
local macro_rules | `(tactic| o_head $_) => `(tactic| assumption)
/-- names the objects that the law can come to -/
theorem hd (h : PySem.Challenge.rw_in0254_01.row.Holds) : PySem.Challenge.rw_in0254_01.row.Holds := by k_head
end

end
section
open PySem PySem.W PyProof.Rows
set_option Elab.async false
set_option maxRecDepth 1000000
set_option maxHeartbeats 0
namespace Hx
abbrev R : OpenRow := PySem.Challenge.rw_in0254_01.row
/-- the top without its namings of modules -/
noncomputable def keepS : Stmt → Bool
  | .Assign _ _ p => !([2, 52, 58, 66, 156, 189].contains p.line)
  | _ => true
noncomputable def vw : Program := { R.prog with main := { R.prog.main with body := R.prog.main.body.filter keepS } }
noncomputable abbrev as : List Nat := [2, 3, 35, 36, 37, 39, 40, 42, 43, 44, 46, 47, 49, 50, 51, 53, 54, 56, 57, 58, 60, 61, 63, 64, 65, 67, 68, 70, 71,
      75, 76, 77, 79, 80, 82, 83, 85, 89, 91, 92, 94, 95, 96, 98, 99, 101, 102, 103, 105, 106, 108, 109, 110, 112, 113,
      115, 116, 117, 120, 121, 122, 125, 126, 127, 129, 130, 132, 133, 134, 136, 137, 139, 140, 141, 143, 144, 146, 147,
      148, 151, 152, 153, 156, 157, 158, 160, 161, 163, 164, 165, 168, 169, 170, 173, 174, 175, 178, 179]
theorem asOk (P : Params) : as = (Mine.hd.heap_1 P).map (·.1) := by kernel_rfl
noncomputable abbrev loose : List PySem.Str := [PySem.Str.ofString "IPV4_RE", PySem.Str.ofString "_twin_re_1", PySem.Str.ofString "_special_chars_map"]
noncomputable abbrev H : Hook := kmHook Mine.hd.heap_1 as asOk [97]
noncomputable def Sd (w : World) : Prop := (openEnds treeTable R.prog w 4320).map (fun s => (openSeen vw loose (importedModules R.prog.main.body) (fun s => xlAt vw [] s && recOk (RowW.records R.toRowW) s) true s, H.obs s)) = some (openGood vw loose, H.val w)
theorem said : PySem.Challenge.rw_in0254_01.wellSaid = true := by kernel_rfl
theorem oks : (chainsOk vw && opensWell R.prog && (frees R.toRowW && R.within.isEmpty)) = true := by kernel_rfl
theorem bare : R.prog.bare := ⟨rfl, rfl, rfl, rfl, rfl, by decide +kernel⟩
theorem prom : R.toRowW.promised := by w_witness2
/-- the top's run, once for each way of the two rows that it asks -/
theorem t1 (w : World) : Sd ((w.withFollow "special-get-raises" false).withFollow "comprehension-iter-twice" false) := by unfold Sd; kernel_rfl
theorem t2 (w : World) : Sd ((w.withFollow "special-get-raises" false).withFollow "comprehension-iter-twice" true) := by unfold Sd; kernel_rfl
theorem t3 (w : World) : Sd ((w.withFollow "special-get-raises" true).withFollow "comprehension-iter-twice" false) := by unfold Sd; kernel_rfl
theorem t4 (w : World) : Sd ((w.withFollow "special-get-raises" true).withFollow "comprehension-iter-twice" true) := by unfold Sd; kernel_rfl
theorem left (w : World) : Sd w := byRow2 "comprehension-iter-twice" (P := Sd) (byRow2 "special-get-raises" (P := fun w => Sd (w.withFollow "comprehension-iter-twice" false)) t1 t3) (byRow2 "special-get-raises" (P := fun w => Sd (w.withFollow "comprehension-iter-twice" true)) t2 t4) w
/-- the head: what is left is the walk of the law's call -/
theorem head {d : DefRec} {kwd : List (PySem.Str × PySem.Expr)} (hdef : defOf vw R.name = some (d, kwd)) (hp : R.prog.theDef R.name = some (d.params, d.body, d.scope)) (hk : kwWritten? d.params.kwonlyargs d.params.kw_defaults = some kwd)
    (call : WalkO vw loose (XL vw []) (kmHook Mine.hd.heap_1 as asOk [97]).says R.toRowW d kwd fun f vs => PySem.call f vs) : PySem.Challenge.rw_in0254_01.Holds :=
  holds_law said fun s => holds_open (q := vw) (loose := loose) (Xt := fun s => xlAt vw [] s && recOk (RowW.records R.toRowW) s) (XP := XL vw []) (Yf := H.obs) (Ya := H.val) (YP := H.says) (N := 4320) left H.of H.keeps (fun s e => xl_of s (Bool.and_eq_true_iff.mp e).1) XL.keeps hdef hp hk (fun s e => recFacts_of (Bool.and_eq_true_iff.mp e).2) rfl s oks bare prom call
end Hx

end
section
set_option Elab.async false
set_option maxRecDepth 100000
set_option maxHeartbeats 2000000
open PySem PySem.W PySem.Calls PyProof.Rows
section
variable {M : Model} {A : Around} {E : Value → Shared → Prop} {s : Shared} {env : Env}
/-- a statement at the head of a block, what follows it hidden behind a name -/
theorem hide_cons {S : Stmt} {rest : List Stmt} {Q : Flow → Shared → Prop}
    (h : ∀ K : Flow → Shared → Prop, (∀ f s', (match f with | .next => wpAny M A (execs rest env) Q E s' | f => Q f s') → K f s') → wpAny M A (exec S env) K E s) :
    wpAny M A (execs (S :: rest) env) Q E s := wpAny_execs_cons (h _ fun _ _ x => x)
/-- where a call stands, behind a name -/
theorem hide_A {α : Type} {x : Sem α} {Q : α → Shared → Prop} (h : ∀ A1 : Around, A1.handled = A.handled → A1.depth = A.depth → A1.frames = A.frames → A1.units = A.units → wpAny M A1 x Q E s) : wpAny M A x Q E s := h A rfl rfl rfl rfl
/-- a value that is reckoned, what follows hidden behind a name -/
theorem hide_v {α : Type} {x : Sem Value} {A' : Around} {E' : Value → Shared → Prop} {y : Value → Shared → Sem α} {R : Value → Shared → α → Shared → Prop}
    (h : ∀ K : Value → Shared → Prop, (∀ v s', wpAny M A' (y v s') (R v s') E' s' → K v s') → wpAny M A x K E s) :
    wpAny M A x (fun v s' => wpAny M A' (y v s') (R v s') E' s') E s := h _ fun _ _ q => q
/-- a test, its two ways hidden behind a name -/
theorem hide_b {x : Sem Bool} {P R : Bool → Shared → Prop}
    (h : ∀ K : Bool → Shared → Prop, (∀ b s', (if b = true then P b s' else R b s') → K b s') → wpAny M A x K E s) :
    wpAny M A x (fun b s' => if b = true then P b s' else R b s') E s := h _ fun _ _ q => q
end

end
section
set_option Elab.async false
set_option maxRecDepth 100000
set_option maxHeartbeats 8000000
open PySem PySem.W PySem.Calls PyProof.Rows
/-- where the lambda stands in `_translate` -/
noncomputable def lamPos : Pos := { line := 113, col := 39, endLine := 113, endCol := 76 }
/-- the table of the codes of `_translate`: the lambda's is in it, or not yet -/
noncomputable def Okps (ps : Array Value) : Prop := TriplesOk ps.toList ∧ (codeAmong lamPos ps.toList = none ∨ ∃ c, codeAmong lamPos ps.toList = some c)
noncomputable def Tab (h : Heap) : Prop := ∃ ps, h.get? 97 = some (tabObj ps) ∧ Okps ps

/-- what stands at every state of the call: the program's own objects, the top's facts -/
structure Wd (w : World) (mg mb : Str → Option Value) (h : Heap) : Prop where
  K : (Mine.hd.heap_1 w.params).In h
  T : ∃ p loose mean, Top p loose mean mg mb h
  tab : Tab h

noncomputable def Ext (h h' : Heap) : Prop := ∀ b o, h.get? b = some o → h'.get? b = some o
def wuAuto : Lean.Syntax := Lean.Syntax.node .none ``Lean.Parser.Tactic.tacticSeq #[Lean.Syntax.node .none ``Lean.Parser.Tactic.tacticSeq1Indented #[Lean.Syntax.node .none `null #[Lean.Syntax.node .none ``Lean.Parser.Tactic.withUnfoldingAll #[.atom .none "with_unfolding_all", Lean.Syntax.node .none ``Lean.Parser.Tactic.tacticSeq #[Lean.Syntax.node .none ``Lean.Parser.Tactic.tacticSeq1Indented #[Lean.Syntax.node .none `null #[Lean.Syntax.node .none ``Lean.Parser.Tactic.tacticRfl #[.atom .none "rfl"]]]]]]]]
def iwuAuto : Lean.Syntax := Lean.Syntax.node .none ``Lean.Parser.Tactic.tacticSeq #[Lean.Syntax.node .none ``Lean.Parser.Tactic.tacticSeq1Indented #[Lean.Syntax.node .none `null #[Lean.Syntax.node .none ``Lean.Parser.Tactic.intro #[.atom .none "intro", Lean.Syntax.node .none `null #[Lean.Syntax.node .none ``Lean.Parser.Term.hole #[.atom .none "_"]]], .atom .none ";", Lean.Syntax.node .none ``Lean.Parser.Tactic.withUnfoldingAll #[.atom .none "with_unfolding_all", Lean.Syntax.node .none ``Lean.Parser.Tactic.tacticSeq #[Lean.Syntax.node .none ``Lean.Parser.Tactic.tacticSeq1Indented #[Lean.Syntax.node .none `null #[Lean.Syntax.node .none ``Lean.Parser.Tactic.tacticRfl #[.atom .none "rfl"]]]]]]]]
def irflAuto : Lean.Syntax := Lean.Syntax.node .none ``Lean.Parser.Tactic.tacticSeq #[Lean.Syntax.node .none ``Lean.Parser.Tactic.tacticSeq1Indented #[Lean.Syntax.node .none `null #[Lean.Syntax.node .none ``Lean.Parser.Tactic.intro #[.atom .none "intro", Lean.Syntax.node .none `null #[Lean.Syntax.node .none ``Lean.Parser.Term.hole #[.atom .none "_"]]], .atom .none ";", Lean.Syntax.node .none ``Lean.Parser.Tactic.tacticRfl #[.atom .none "rfl"]]]]
def rflAuto : Lean.Syntax := Lean.Syntax.node .none ``Lean.Parser.Tactic.tacticSeq #[Lean.Syntax.node .none ``Lean.Parser.Tactic.tacticSeq1Indented #[Lean.Syntax.node .none `null #[Lean.Syntax.node .none ``Lean.Parser.Tactic.tacticRfl #[.atom .none "rfl"]]]]
theorem natSub {a b : Nat} (h : b ≤ a) : ((a : Int) - (b : Int)).toNat = a - b := by rw [← Int.ofNat_sub h]; rfl
theorem clampN {a b : Nat} : max (0 : Int) (min (a : Int) (b : Int)) = ((min a b : Nat) : Int) := by
  rcases Nat.le_total a b with h | h
  · rw [Nat.min_eq_left h, Int.min_eq_left (Int.ofNat_le.mpr h)]; exact Int.max_eq_right (Int.natCast_nonneg _)
  · rw [Nat.min_eq_right h, Int.min_eq_right (Int.ofNat_le.mpr h)]; exact Int.max_eq_right (Int.natCast_nonneg _)
theorem stepLt {n i : Nat} (h : i ≤ n) : n + 1 - (i + 1) < n + 1 - i := Nat.sub_succ_lt_self (n + 1) i (Nat.lt_succ_of_le h)
theorem cut_max {b e d : Nat} : (if (e:Int) - (d:Int) > (b:Int) then (e:Int) - (d:Int) else (b:Int)).toNat = max b (e - d) := by
  rcases Nat.le_total d e with h | h
  · rw [← Int.ofNat_sub h]
    split
    · next q => exact (Nat.max_eq_right (Nat.le_of_lt (Int.ofNat_lt.mp q))).symm
    · next q => exact (Nat.max_eq_left (Nat.le_of_not_lt fun r => q (Int.ofNat_lt.mpr r))).symm
  · rw [if_neg (fun q => absurd (Int.lt_of_lt_of_le q (Int.sub_nonpos_of_le (Int.ofNat_le.mpr h))) (Int.not_lt.mpr (Int.natCast_nonneg b))), Nat.sub_eq_zero_of_le h]
    exact (Nat.max_eq_left (Nat.zero_le _)).symm
theorem Ext.rfl {h : Heap} : Ext h h := fun _ _ e => e
theorem Ext.trans {a b c : Heap} (x : Ext a b) (y : Ext b c) : Ext a c := fun _ _ e => y _ _ (x _ _ e)
theorem Wd.keeps {w : World} {mg mb : Str → Option Value} {h h' : Heap} (W : Wd w mg mb h) (k : Ext h h') : Wd w mg mb h' :=
  ⟨W.K.keeps k, let ⟨p, l, mean, T⟩ := W.T; ⟨p, l, mean, T.keeps k⟩, let ⟨ps, a, b⟩ := W.tab; ⟨ps, k _ _ a, b⟩⟩

/-- the heap without the table -/
noncomputable def hid (h : Heap) : Heap := hideAll h [97]
theorem hid_size (h : Heap) : (hid h).objs.size = h.objs.size := hideAll_size _ _
theorem hid_of {h : Heap} {b : Addr} {o : Obj} (e : (hid h).get? b = some o) : h.get? b = some o := of_hideAll _ e
theorem hid_get {h : Heap} {b : Addr} {o : Obj} (e : h.get? b = some o) (hb : b ≠ 97) : (hid h).get? b = some o := hideAll_get _ e (by simpa using hb)
theorem hid_none (h : Heap) : (hid h).get? 97 = none := hideAll_none _ (.head _)
theorem hid_new {h : Heap} {b : Addr} (e : h.get? b = none) : (hid h).get? b = none := by
  cases q : (hid h).get? b with
  | none => rfl
  | some o => rw [hid_of q] at e; cases e
theorem hid_cls {h : Heap} (T : Tab h) {b : Addr} {o : Obj} (e : h.get? b = some o) (hn : o.cls ≠ .none ∨ ∀ ps, o.data ≠ .fields ps) : (hid h).get? b = some o := by
  refine hid_get e fun q => ?_
  obtain ⟨ps, t, _⟩ := T
  rw [q, t] at e
  cases e
  rcases hn with n | n
  · exact n rfl
  · exact n _ rfl
theorem hid_ns {h : Heap} (T : Tab h) {a : Addr} {m : Str → Option Value} (x : h.Ns a m) : (hid h).Ns a m :=
  let ⟨o, es, ep, e, hd, r⟩ := x; ⟨o, es, ep, hid_cls T e (.inr fun ps q => by rw [hd] at q; cases q), hd, r⟩
theorem hid_K {P : Params} {h : Heap} (X : (Mine.hd.heap_1 P).In h) : (Mine.hd.heap_1 P).In (hid h) := fun a o e => by
  refine hid_get (X a o e) ?_
  rintro rfl
  have : (Mine.hd.heap_1 P).lookup 97 = none := rfl
  rw [this] at e
  cases e
theorem hid_top {p : Program} {loose : List Str} {mean : ExcName → Option Value} {mg mb : Str → Option Value} {h : Heap} (B : Tab h) (T : Top p loose mean mg mb h) :
    Top topProg (loose ++ (recsOf p).map (·.name) ++ (litsOf p).map (·.1) ++ (clssOf p loose).map (·.name)) mean mg mb (hid h) where
  g := hid_ns B T.g
  b := hid_ns B T.b
  nolimit := let ⟨mc, a, r⟩ := T.nolimit; ⟨mc, hid_ns B a, r⟩
  nodigits := let ⟨mc, a, r⟩ := T.nodigits; ⟨mc, hid_ns B a, r⟩
  fn := fun d hd => absurd (show d ∈ ([] : List DefRec) from hd) List.not_mem_nil
  own := fun o ho => absurd (show o ∈ ([] : List OwnSpec) from ho) List.not_mem_nil
  const := fun x d e => by cases (show (none : Option PyData) = some d from e)
  free := fun x h1 h2 _ _ _ => T.free x h1 (fun q => h2 (List.mem_append_left _ (List.mem_append_left _ (List.mem_append_left _ q))))
    (fun q => h2 (List.mem_append_left _ (List.mem_append_left _ (List.mem_append_right _ q)))) (fun q => h2 (List.mem_append_left _ (List.mem_append_right _ q))) fun q => h2 (List.mem_append_right _ q)
  builtins := T.builtins
  tab := fun d hd => absurd (show d ∈ ([] : List DefRec) from hd) List.not_mem_nil
  bmain := let ⟨bm, ob, a1, a2, a3, a4, r⟩ := T.bmain; ⟨bm, ob, a1, a2, hid_cls B a3 (.inl fun q => by rw [a4] at q; cases q), a4, r⟩
  seer := fun e => absurd (show false = true from e) Bool.false_ne_true

noncomputable abbrev Ext7 (h h' : Heap) : Prop := Heap.ExtBut 97 h h'
theorem Ext.seven {h h' : Heap} (x : Ext h h') : Ext7 h h' := fun b o _ e => x b o e
theorem Ext7.rfl {h : Heap} : Ext7 h h := fun _ _ _ e => e
theorem Ext7.trans {a b c : Heap} (x : Ext7 a b) (y : Ext7 b c) : Ext7 a c := fun _ _ n e => y _ _ n (x _ _ n e)

section
variable {h₀ h h' : Heap} {L : Addr} {m mg mb : Str → Option Value} {news : List (Addr × Obj)} {g : Array Value → List (Addr × Obj)} {ps ps' : Array Value} {w : World}
theorem ext7_fr (F : Fr (hid h₀) L h m) : Ext7 h₀ h := fun b o n e => F.keep _ _ (hid_get e n)
theorem Wd.of (W : Wd w mg mb h₀) (F : Fr (hid h₀) L h m) (N : News (hid h₀) L h news) (hm : (97, tabObj ps) ∈ news) (ok : Okps ps) : Wd w mg mb h :=
  ⟨(hid_K W.K).keeps F.keep, let ⟨_, _, _, T⟩ := W.T; ⟨_, _, _, (hid_top W.tab T).keeps F.keep⟩, ⟨ps, N.get hm, ok⟩⟩

/-- the table's entry stands last in the ledger -/
inductive Up (ps : Array Value) : List (Addr × Obj) → (Array Value → List (Addr × Obj)) → Prop
  | here : Up ps [(97, tabObj ps)] (fun ps' => [(97, tabObj ps')])
  | next {p : Addr × Obj} {l : List (Addr × Obj)} {g : Array Value → List (Addr × Obj)} : (∀ q, p.2 ≠ tabObj q) → Up ps l g → Up ps (p :: l) (fun ps' => p :: g ps')
theorem Up.mem (u : Up ps news g) : (97, tabObj ps) ∈ news := by
  induction u with
  | here => exact .head _
  | next _ _ ih => exact .tail _ ih
theorem Up.from (u : Up ps news g) {p : Addr × Obj} (hp : p ∈ g ps') : p = (97, tabObj ps') ∨ (p ∈ news ∧ ∀ q, p.2 ≠ tabObj q) := by
  induction u with
  | here => exact .inl (List.mem_singleton.mp hp)
  | next n _ ih =>
    rcases List.mem_cons.mp hp with rfl | hp
    · exact .inr ⟨.head _, n⟩
    · exact (ih hp).imp id fun q => ⟨.tail _ q.1, q.2⟩
theorem after7F (F : Fr (hid h₀) L h m) (N : News (hid h₀) L h news) (u : Up ps news g) (x : Ext7 h h') : Fr (hid h₀) L h' m :=
  ⟨F.ns.extBut x (N _ u.mem).2.1.symm, fun b o e => x b o (fun q => by rw [q, hid_none] at e; cases e) (F.keep b o e), F.above⟩
theorem after7N (F : Fr (hid h₀) L h m) (N : News (hid h₀) L h news) (u : Up ps news g) (x : Ext7 h h') (ht : h'.get? 97 = some (tabObj ps')) : News (hid h₀) L h' (g ps') := fun p hp => by
  rcases u.from hp with rfl | ⟨hp, hn⟩
  · exact ⟨ht, (N _ u.mem).2⟩
  · refine ⟨x _ _ (fun q => ?_) (N p hp).1, (N p hp).2⟩
    have e := (N p hp).1
    rw [q, (N _ u.mem).1] at e
    exact hn ps (Option.some.inj e).symm
theorem upCls {o : Obj} (h : o.cls ≠ .none) : ∀ q, o ≠ tabObj q := fun q e => h (by rw [e])
theorem upTy {o : Obj} {t : _} (h : o.cls = .type t) : ∀ q, o ≠ tabObj q := upCls (by rw [h]; exact nofun)
theorem upCell {o : Obj} {v : Option Value} (h : o.data = .cell v) : ∀ q, o ≠ tabObj q := fun q e => by rw [e] at h; cases h
end

section
variable {prog : Program} {w : World} {A : Around} {E : Value → Shared → Prop} {s : Shared} {Q : Value → Shared → Prop}
theorem enter {K : Frag} {p : Program} {loose : List Str} {mean : ExcName → Option Value} {mg mb : Str → Option Value} {name qual : Str} {params : Arguments} {body : List Stmt} {scope : Scope} {dV kV doc pm cdv ct oc : Value} {an od : Option Addr} {osl : Array (Option Value)} {f : Addr} {vals : List Value} {binds : List (Str × Value)}
    (X : K.In s.heap) (T : Top p loose mean mg mb s.heap)
    (ho : K.lookup f = some ⟨oc, od, .func (fnOf name qual params body scope dV kV doc pm an cdv ct), osl⟩) (hcd : codeIn K cdv qual = true) (hroom : A.depth < recursionLimit)
    (hbind : BindsTo s (fnOf name qual params body scope dV kV doc pm an cdv ct) ⟨vals, []⟩ binds) (hloc : ∀ y ∈ binds, scope.names.lookup y.1 = some .local)
    (hcell : ∀ x ∈ scope.names, x.2 ≠ .cell) (hco : scope.isCoroutine = false) (hgen : scope.isGenerator = false) (hk : scope.kind = .function)
    (h : ∀ L h₁, Fr s.heap L h₁ (fun y => binds.reverse.lookup y) → News s.heap L h₁ [] →
      wpAny (model prog w) (A.deeper (envOf qual scope L f cdv)) (execs body (envOf qual scope L f cdv))
        (fun fl s' => Q (match fl with | .ret v => v | _ => .none) s') (fun _ _ => False) { s with heap := h₁, toks := s.toks + binds.length }) :
    wpAny (model prog w) A (call (.ref f) vals) Q E s := by
  refine wpAny_call (codeAny_call_def (fd := fnOf name qual params body scope dV kV doc pm an cdv ct) (body := body) (binds := binds) hroom (X _ _ ho) rfl T.nolimit (codeRec_of X hcd) rfl hbind hcell hloc (fun h₁ hns hk₁ => ?_) hco hgen hk)
  refine wpAny_mono (h s.heap.objs.size h₁ ⟨hns, hk₁, Nat.le_refl _⟩ News.nil) (fun fl s' hl => hl) fun _ _ y => y.elim
/-- entry of a function that may grow the table -/
theorem enter7 {p : Program} {loose : List Str} {mean : ExcName → Option Value} {mg mb : Str → Option Value} {name qual : Str} {params : Arguments} {body : List Stmt} {scope : Scope} {dV kV doc pm cdv ct oc : Value} {an od : Option Addr} {osl : Array (Option Value)} {f : Addr} {vals : List Value} {binds : List (Str × Value)}
    (X : (Mine.hd.heap_1 w.params).In s.heap) (T : Top p loose mean mg mb s.heap) (B : Tab s.heap)
    (ho : (Mine.hd.heap_1 w.params).lookup f = some ⟨oc, od, .func (fnOf name qual params body scope dV kV doc pm an cdv ct), osl⟩) (hcd : codeIn (Mine.hd.heap_1 w.params) cdv qual = true) (hroom : A.depth < recursionLimit)
    (hbind : BindsTo s (fnOf name qual params body scope dV kV doc pm an cdv ct) ⟨vals, []⟩ binds) (hloc : ∀ y ∈ binds, scope.names.lookup y.1 = some .local)
    (hcell : ∀ x ∈ scope.names, x.2 ≠ .cell) (hco : scope.isCoroutine = false) (hgen : scope.isGenerator = false) (hk : scope.kind = .function)
    (h : ∀ L h₁ ps, (Mine.hd.heap_1 w.params).In (hid s.heap) → (∃ l', Top topProg l' mean mg mb (hid s.heap)) → Okps ps → Fr (hid s.heap) L h₁ (fun y => binds.reverse.lookup y) → News (hid s.heap) L h₁ [(97, tabObj ps)] →
      wpAny (model prog w) (A.deeper (envOf qual scope L f cdv)) (execs body (envOf qual scope L f cdv))
        (fun fl s' => Q (match fl with | .ret v => v | _ => .none) s') (fun _ _ => False) { s with heap := h₁, toks := s.toks + binds.length }) :
    wpAny (model prog w) A (call (.ref f) vals) Q E s := by
  refine enter X T ho hcd hroom hbind hloc hcell hco hgen hk fun L h₁ F _ => ?_
  obtain ⟨ps, ht, ok⟩ := id B
  refine h L h₁ ps (hid_K X) ⟨_, hid_top B T⟩ ok ⟨F.ns, fun b o e => F.keep b o (hid_of e), Nat.le_trans (Nat.le_of_eq (hid_size _)) F.above⟩ fun p hp => ?_
  rw [List.mem_singleton.mp hp]
  exact ⟨F.keep _ _ ht, Nat.ne_of_lt (Nat.lt_of_lt_of_le (Heap.lt_size ht) F.above), hid_none _⟩
end

section
variable {prog : Program} {w : World} {A : Around} {E : Value → Shared → Prop} {s : Shared} {Q : Value → Shared → Prop}
/-- entry of a function with cells -/
theorem enter7C {p : Program} {loose : List Str} {mean : ExcName → Option Value} {mg mb : Str → Option Value} {name qual : Str} {params : Arguments} {body : List Stmt} {scope : Scope} {dV kV doc pm cdv ct oc : Value} {an od : Option Addr} {osl : Array (Option Value)} {f : Addr} {vals : List Value} {binds : List (Str × Value)}
    (X : (Mine.hd.heap_1 w.params).In s.heap) (T : Top p loose mean mg mb s.heap) (B : Tab s.heap)
    (ho : (Mine.hd.heap_1 w.params).lookup f = some ⟨oc, od, .func (fnOf name qual params body scope dV kV doc pm an cdv ct), osl⟩) (hcd : codeIn (Mine.hd.heap_1 w.params) cdv qual = true) (hroom : A.depth < recursionLimit)
    (hbind : BindsTo s (fnOf name qual params body scope dV kV doc pm an cdv ct) ⟨vals, []⟩ binds)
    (hkind : ∀ n, ∀ x ∈ binds, scope.names.lookup x.1 = some .local ∨ (scope.names.lookup x.1 = some .cell ∧ ((cellsFrom n scope.names []).lookup x.1).isSome = true))
    (hnd : ((cellsFrom 0 scope.names []).map (·.1)).Nodup)
    (hco : scope.isCoroutine = false) (hgen : scope.isGenerator = false) (hk : scope.kind = .function)
    (h : ∀ L h₁ tk cells ps, (Mine.hd.heap_1 w.params).In (hid s.heap) → (∃ l', Top topProg l' mean mg mb (hid s.heap)) → Okps ps → 97 < L → Fr (hid s.heap) L h₁ (bindL (envOfC qual scope L f cdv).kindOf binds fun _ => none) → News (hid s.heap) L h₁ (cells ++ [(97, tabObj ps)]) →
      CellsAre (bindC (envOfC qual scope L f cdv).kindOf binds fun _ => none) (cellsFrom (L + 1) scope.names []) cells →
      wpAny (model prog w) (A.deeper (envOfC qual scope L f cdv)) (execs body (envOfC qual scope L f cdv))
        (fun fl s' => Q (match fl with | .ret v => v | _ => .none) s') (fun _ _ => False) { s with heap := h₁, toks := tk }) :
    wpAny (model prog w) A (call (.ref f) vals) Q E s := by
  obtain ⟨ps, ht, ok⟩ := id B
  refine wpAny_call (codeAny_call_function hroom (X _ _ ho) rfl hco hgen rfl (codeRec_of X hcd) (hbind _ _ _ _ ?_))
  refine wpAny_newFunctionEnv_cells hk (hkind _) fun env' he s' x => ?_
  subst he
  refine ⟨T.nolimit.keeps x.toInCall.keep, codeAny_func ?_⟩
  obtain ⟨h₁, tk, rfl, _⟩ := x.done
  have hk₁ := x.toInCall.keep
  obtain ⟨cells, NC, Y⟩ := Cl.news (h₀ := s.heap) (Nat.le_refl _) fun n c hm => ⟨x.cell n c (lookup_of_mem_nodup (cellsFrom_names scope.names 0 (s.heap.objs.size + 1) [] [] rfl ▸ hnd) hm), x.above n c hm⟩
  refine wpAny_mono (h s.heap.objs.size h₁ tk cells ps (hid_K X) ⟨_, hid_top B T⟩ ok (Heap.lt_size ht) ⟨x.toInCall.ns, fun b o e => hk₁ b o (hid_of e), Nat.le_of_eq (hid_size _)⟩ (fun p hp => ?_) Y) (fun fl s' hl => hl) fun _ _ y => y.elim
  rcases List.mem_append.mp hp with hp | hp
  · exact ⟨(NC p hp).1, (NC p hp).2.1, hid_new (NC p hp).2.2⟩
  · rw [List.mem_singleton.mp hp]
    exact ⟨hk₁ _ _ ht, Nat.ne_of_lt (Heap.lt_size ht), hid_none _⟩
end

section
variable {M : Model} {A : Around} {E : Value → Shared → Prop} {s : Shared} {h₀ : Heap} {L a : Addr} {m mg mb : Str → Option Value} {cn : Str} {cs : Scope} {news : List (Addr × Obj)} {Q : Value → Shared → Prop} {P : Params}
  {p : Program} {loose : List Str} {mean : ExcName → Option Value} {params : Arguments} {body : Expr} {scope : Scope} {ps : Array Value} {g : Array Value → List (Addr × Obj)}
theorem code101 {h : Heap} (X : (Mine.hd.heap_1 P).In h) : CodeHd h 101 97 :=
  ⟨_, _, _, _, _, _, _, _, _, X 101 _ rfl, rfl, rfl, rfl, rfl, rfl, rfl, rfl, rfl, by decide⟩
theorem lam_table (ok : Okps ps) (hn : codeAmong lamPos ps.toList = none) (c : Value) : Okps (ps ++ #[rawInt lamPos.line, rawInt lamPos.col, c]) := by
  have e : (ps ++ #[rawInt lamPos.line, rawInt lamPos.col, c]).toList = ps.toList ++ [rawInt lamPos.line, rawInt lamPos.col, c] := by simp
  refine ⟨?_, .inr ⟨c, ?_⟩⟩
  · rw [e]; exact TriplesOk_snoc _ _ _ _ ok.1
  · rw [e]; exact codeAmong_snoc _ ok.1 hn
theorem r_lambda (F : Fr (hid h₀) L s.heap m) (N : News (hid h₀) L s.heap news) (X : (Mine.hd.heap_1 P).In (hid h₀)) (T : Top p loose mean mg mb (hid h₀)) (ok : Okps ps)
    (hcl : closureFor scope (envOf cn cs L a (.ref 101)) = pure []) (hdef : defaultsOf params (envOf cn cs L a (.ref 101)) = ([], [])) (u : Up ps news g)
    (h : ∀ f fo h' tk ps', fo.cls = .type "function" → Okps ps' → Fr (hid h₀) L h' m → News (hid h₀) L h' ((f, fo) :: g ps') → (∀ q ∈ g ps', q.1 < f) → Q (.ref f) { s with heap := h', toks := tk }) :
    wpAny M A (eval (.Lambda params body scope lamPos) (envOf cn cs L a (.ref 101))) Q E s := by
  refine kla_eval hdef ?_
  have hm := N _ u.mem
  have hgs := T.g.keeps F.keep
  obtain ⟨bm, ob, b1, b2, b3, b4, b5, b6⟩ := T.bmain
  have hgP : mainGlobals ≠ 97 := fun q => by
    obtain ⟨o, es, ep, e, hd, _⟩ := hgs
    rw [q, hm.1] at e; cases e; cases hd
  have hbP : bm ≠ 97 := fun q => by
    have e := F.keep _ _ b3
    rw [q, hm.1] at e; cases e; cases b4
  have hbG : bm ≠ mainGlobals := fun q => by
    obtain ⟨o, es, ep, e, hd, _⟩ := T.g
    rw [q, e] at b3; cases b3; rw [hd] at b6; cases b6
  have done : ∀ (fo : Obj) (h' : Heap) (tk : Nat) (ps' : Array Value), fo.cls = .type "function" → fo.isFreed = false → Ext7 s.heap h' → h'.get? 97 = some (tabObj ps') → Okps ps' → Q (.ref h'.objs.size) { s with heap := h'.push fo, toks := tk } := fun fo h' tk ps' hc hf hx ht ok' =>
    have F1 := after7F F N u hx
    have N1 := after7N F N u hx ht
    h _ fo _ tk ps' hc ok' (F1.push _) (N1.push F1 _ hf) (fun q hq => Heap.lt_size (N1 q hq).1)
  rcases ok.2 with hn | ⟨c', hc'⟩
  · exact kla_makeFunction (mg := mg) hcl rfl hgs rfl ((code101 X).keeps F.keep) hm.1 ok.1 hn hgP ⟨bm, ob, b1, b2, hbG, hbP, F.keep _ _ b3, b4, b5, b6⟩ fun c' ctv h' tk hx _ _ _ htb =>
      done _ h' tk _ rfl rfl hx htb (lam_table ok hn _)
  · exact kla_makeFunctionHit (mg := mg) hcl rfl hgs rfl ((code101 X).keeps F.keep) hm.1 ok.1 hc' ⟨bm, ob, b1, b2, hbG, hbP, F.keep _ _ b3, b4, b5, b6⟩ fun ctv h' tk hk _ =>
      done _ h' tk ps rfl rfl (fun b o _ e => hk b o e) (hk _ _ hm.1) ok
end

theorem fresh7 {h : Heap} {b : Addr} (hb : b ≠ 97) (e : (hid h).get? b = none) : h.get? b = none := by
  cases q : h.get? b with
  | none => rfl
  | some o => rw [hid_get q hb] at e; cases e

theorem fill (P : Params) : PySem.Challenge.rw_in0254_01.Holds → Mine.hd.heap_1 P = Mine.hd.heap_1 P := by
  k_fill
  intro _
  rfl


end
section
set_option compiler.extract_closed false
section
open Lean
def nd (k : Name) (as : Array Syntax) : Syntax := Syntax.node .none k as
def at1 (s : String) : Syntax := .atom .none s
def nl (as : Array Syntax) : Syntax := nd `null as
def tp (s : String) : Name := .str `Lean.Parser.Tactic s
def tm (s : String) : Name := .str `Lean.Parser.Term s
/-- a tactic of one word -/
def kw (k s : String) : Syntax := nd (tp k) #[at1 s]
def kk (k s : String) : Syntax := nd (.str `PySem.W k) #[at1 s]
def sq (ts : Array Syntax) : Syntax := nd (tp "tacticSeq") #[nd (tp "tacticSeq1Indented") #[nl (ts.flatMap fun t => #[t, at1 ";"])]]
/-- a word with tactics behind it -/
def wd (k s : String) (t : Syntax) : Syntax := nd (tp k) #[at1 s, sq #[t]]
def pr (ts : List Syntax) : Syntax := nd (tp "paren") #[at1 "(", sq ts.toArray, at1 ")"]
def alts (ts : List Syntax) : Syntax := nd (tp "first") #[at1 "first", nl (ts.toArray.map fun t => nd `group #[at1 "|", sq #[t]])]
def try1 (t : Syntax) : Syntax := wd "tacticTry_" "try" t
def waOf (k : String) : Syntax := nd `PyProof.Rows.tacticWalk_at_ #[at1 "walk_at", Syntax.mkStrLit k]
def holeT : Syntax := nd (tm "hole") #[at1 "_"]
def sHole (s : Syntax) : Syntax := nd (tm "syntheticHole") #[at1 "?", s]
def apS (l : Name) (as : List Syntax) : Syntax := if as.isEmpty then mkCIdent l else nd (tm "app") #[mkCIdent l, nl as.toArray]
/-- a tactic of one word with a term behind it -/
def ta (k s : String) (t : Syntax) : Syntax := nd (tp k) #[at1 s, t]
def exT (l : Name) (n : Nat) : Syntax := ta "exact" "exact" (apS l (List.replicate n holeT))
def aT : Syntax := kw "assumption" "assumption"
def rflT : Syntax := exT ``rfl 0
def wuT : Syntax := wd "withUnfoldingAll" "with_unfolding_all" rflT
def cfg : Syntax := nd (tp "optConfig") #[nl #[]]
def dsT (at_ : Array Syntax) : Syntax := nd (tp "dsimp") #[at1 "dsimp", cfg, nl #[], nl #[at1 "only"], nl #[], nl at_]
def cfgT (k s : String) : Syntax := nd (tp k) #[at1 s, cfg]
def natT : Syntax := alts [cfgT "lia" "lia", cfgT "omega" "omega"]
def wordsOf (s : String) : List String := (s.splitOn " ").filter (· ≠ "")
def wordsN (ls : String) : List Name := (wordsOf ls).map String.toName
/-- simp only with these; at everything if so said -/
def soK (k ls : String) (all : Bool) : Syntax := nd (tp k) #[at1 k, cfg, nl #[], nl #[at1 "only"],
  nl #[at1 "[", nl ((wordsN ls).toArray.flatMap fun l => #[nd (tp "simpLemma") #[nl #[], nl #[], mkCIdent l], at1 ","]).pop, at1 "]"],
  nl (if all then #[nd (tp "location") #[at1 "at", nd (tp "locationWildcard") #[at1 "*"]]] else #[])]
def so (ls : String) (all : Bool) : Syntax := soK "simp" ls all
def lenT : Syntax := alts [natT, pr [so "Mine.mk_len List.size_toArray List.length_map List.length_drop List.length_take List.length_append List.length_cons List.length_nil" true, natT]]
def simpT : Syntax := nd (tp "simp") #[at1 "simp", cfg, nl #[], nl #[], nl #[], nl #[]]
def knownT : Syntax := alts [aT, kw "tacticRfl" "rfl", pr [so "decide_eq_true_eq decide_eq_false_iff_not beq_iff_eq beq_eq_false_iff_ne ne_eq List.cons.injEq and_true" false, alts [natT, aT, pr [so "List.length_append List.length_cons" true, natT]]], pr [simpT, kw "done" "done"], pr [simpT, natT]]
def inT (as : List Syntax) : Syntax := ta "intro" "intro" (nl as.toArray)
def idOf (s : String) : Syntax := mkIdent (addMacroScope `Mine (.mkSimple s) 1)
def parT (t : Syntax) : Syntax := nd (tm "paren") #[nd (tm "hygienicLParen") #[at1 "(", nd hygieneInfoKind #[mkIdent .anonymous]], t, at1 ")"]
def byT (t : Syntax) : Syntax := parT (nd (tm "byTactic") #[at1 "by", sq #[t]])
def exA (l : Name) (as : List Syntax) : Syntax := ta "exact" "exact" (apS l as)
def memT : Syntax := byT (kk "tacticK_mem" "k_mem")
def itemT : Syntax := alts [aT, exT `Mine.Li.back_snoc 0, pr [simpT, kw "done" "done"]]
def islT : Syntax := alts [aT, exA `Mine.Li.led [byT aT, memT], exA `Mine.Li.isAt [byT aT, byT aT]]
def wdT : Syntax := let a := byT aT
  alts [exA `Mine.wdOf [a, a, memT, a, a], exA `Mine.Wd.of [a, a, a, memT, a], exA `Mine.Wd.keeps [a, parT (apS ``PyProof.Rows.Fr.keep [a])]]
/-- the side proof that a short name stands for -/
def sd (k : String) : Syntax :=
  match k with
  | "a" => aT
  | "=" => rflT
  | "decide" => cfgT k k
  | "wu" => wuT
  | "iwu" => pr [inT [holeT], wuT]
  | "ra" => alts [rflT, aT]
  | "ar" => alts [aT, rflT]
  | "al" => alts [aT, lenT]
  | "an" => alts [aT, natT]
  | "rn" => alts [rflT, natT]
  | "ip" => alts [exT ``PySem.IsPart.none 0, exT ``PySem.IsPart.int 2]
  | "ixl" => alts [exT `Mine.idx_pos 2, lenT]
  | "simp" => simpT
  | "nat" => natT
  | "len" => lenT
  | "known" => knownT
  | "item" => itemT
  | "isl" => islT
  | "wd" => wdT
  | "rfl" => kw "tacticRfl" k
  | "done" => kw "done" k
  | "dsimp" => dsT #[]
  | "deep" => waOf "my deep"
  | "ne" => waOf "my ne"
  | k => if k.startsWith "k_" then kk ("tacticK_" ++ (k.drop 2).toString) k else waOf k
def argOf (k : String) : Syntax :=
  if k = "?_" then sHole (at1 "_") else if k.startsWith "?" then sHole (mkIdent (.mkSimple (k.drop 1).toString)) else
  if k = "rfl" then mkCIdent ``rfl else if k = "_" then holeT else if k.endsWith "'" then idOf k
  else byT (sd k)
def callOf (l : Name) (ks : String) : Syntax := apS l ((wordsOf ks).map argOf)
def haveOf (x : String) (l : Name) (ks : String) : Syntax :=
  nd (tp "tacticHave__") #[at1 "have", nd (tm "letConfig") #[nl #[]], nd (tm "letDecl") #[nd (tm "letIdDecl") #[nd (tm "letId") #[idOf x], nl #[], nl #[], at1 ":=", callOf l ks]]]
def patOf (s : Syntax) : Syntax := nd (tp "rcasesPatMed") #[nl #[s]]
def obtOf (xs : String) (l : Name) (ks : String) : Syntax :=
  nd (tp "obtain") #[at1 "obtain", nl #[patOf (nd (.str (tp "rcasesPat") "tuple") #[at1 "⟨", nl (((wordsOf xs).toArray.flatMap fun x => #[nd (tp "rcasesPatLo") #[patOf (nd (.str (tp "rcasesPat") "one") #[idOf x]), nl #[]], at1 ","]).pop), at1 "⟩"])], nl #[], nl #[at1 ":=", nl #[callOf l ks]]]
def dsAt (x : String) : Syntax := try1 (dsT #[nd (tp "location") #[at1 "at", nd (tp "locationHyp") #[nl #[idOf x], nl #[]]]])
def fnT : List Syntax := [haveOf "F'" ``PyProof.Rows.Fr.keeps "a x'", haveOf "N'" ``PyProof.Rows.News.grown "a x'"]
/-- what is done after the step -/
def tailOf (c : Char) : List Syntax :=
  match c with
  | 'f' => fnT
  | 'l' => [try1 (nd `PySem.W.tacticK_lt_ #[at1 "k_lt", idOf "l'"])]
  | 'm' => [dsAt "l'"]
  | 'o' => [dsAt "N'"]
  | 'z' => [try1 (sd "k_sweep")]
  | 's' => [waOf "my steps"]
  | 'r' => [obtOf "ps' ok' F' N' ne'" `Mine.after7r "a a up x' W' hr' hf'"]
  | 'n' => [obtOf "ps' ok' F' N'" `Mine.after7 "a a up x' W'"]
  | 'k' => [obtOf "F' N' ne'" `Mine.keepAdd "a a x' hr' hf'"]
  | _ => []
def dfl (t : Syntax) : Syntax := nd `PySem.W.tacticK_dflt_ #[at1 "k_dflt", pr [t]]
def endOf (fl : String) (ts : List Syntax) (xs : String) : Syntax :=
  let c := fl.toList
  let is := (wordsOf xs).map argOf
  let ts := ts ++ (if c.contains 'w' then [sd "k_whole"] else []) ++ (if is.isEmpty then [] else [inT is])
  pr ((if c.contains 'd' then [dfl (pr ts)] else ts) ++ c.flatMap tailOf)
def stS (fl : String) (l : Name) (ks xs : String) : Syntax :=
  endOf fl [ta "refine" "refine" (callOf l (ks ++ " ?_"))] xs
def caT (k : String) (t : Syntax) : Syntax := nd (tp "case") #[at1 "case", nl #[nd (tp "caseArg") #[nd ``Lean.binderIdent #[mkIdent (.mkSimple k)], nl #[]]], at1 "=>", sq #[t]]
def scS (fl : String) (l : Name) (n j : Nat) (cs xs : String) : Syntax :=
  endOf fl (ta "refine'" "refine'" (apS l ((List.range n).map fun i => argOf (if i + 1 = j then "?_" else s!"?k{i + 1}"))) ::
    (wordsOf cs).map fun c => match c.splitOn ":" with
      | [i, s] => caT ("k" ++ i) (sd s)
      | _ => .missing) xs
/-- one step: the rule l, its sides in their order, the last hole; then the names -/
def st (fl : String) (l : Name) (ks xs : String) : MacroM Syntax := return stS fl l ks xs
/-- one step whose sides are shown in an order of their own: n places, the j-th is the hole -/
def sc (fl : String) (l : Name) (n j : Nat) (cs xs : String) : MacroM Syntax := return scS fl l n j cs xs
def wr (t : Syntax) : Syntax := wd "withReducible" "with_reducible" t
/-- the first of these facts that fits -/
def litOf (ls : String) : MacroM Syntax := return wr (alts ((wordsN ls).map fun l => exT (`Mine ++ l) 0))
def ap (l : Name) (as : List Syntax) : Syntax := apS l as
def apH (l : Name) (n : Nat) : Syntax := ap l (List.replicate n holeT)
def showT (t : Syntax) : Syntax := ta "show" "show" (ap ``PySem.wpAny [holeT, holeT, t, holeT, holeT, holeT])
def unhT : Syntax := pr [wr (ta "refine" "refine" (nd (tm "app") #[mkIdent `hkK, nl #[holeT, holeT, sHole (at1 "_")]])), try1 (nd (tp "clear") #[at1 "clear", nl #[mkIdent `hkK, mkIdent `kK]]), try1 (dsT #[])]
/-- the steps of the walk, which stop at one of these -/
def stepsOf (ts : List Syntax) : MacroM Syntax :=
  let stop := if ts.isEmpty then [] else [wd "failIfSuccess" "fail_if_success" (wr (alts (ts.map showT)))]
  let w1 := nd `PyProof.Rows.tacticWalk1 #[at1 "walk1"]
  let unf := pr [kk "tacticK_unfold" "k_unfold", try1 (dsT #[])]
  return wd "repeat'" "repeat'" (alts [unhT, unf, pr (stop ++ [w1]), pr (dsT #[] :: stop ++ [alts [unhT, w1, unf]])])
def refT (n : Nat) : Syntax := ap ``PySem.call [ap ``PySem.Value.ref [Syntax.mkNumLit (toString n)], holeT]
def blT (l : Name) (s : String) : Syntax := ap ``PySem.call [ap l [Syntax.mkStrLit s], holeT]
def ex (l ks : String) : Syntax := ta "exact" "exact" (callOf l.toName ks)
def rf (l ks : String) : Syntax := ta "refine" "refine" (callOf l.toName ks)
def inM (xs : String) : Syntax := inT ((wordsOf xs).map argOf)
def altM (ts : List Syntax) : MacroM Syntax := return alts ts
def sqM (ts : List Syntax) : MacroM Syntax := return pr ts
def thenM (t u : Syntax) : Syntax := nd ``Parser.Tactic.«tactic_<;>_» #[t, at1 "<;>", u]
def stops0 : List Syntax := [ap ``PySem.exec [apH ``PySem.Stmt.While 4, holeT], ap ``PySem.exec [apH ``PySem.Stmt.For 5, holeT]]
def stops1 : List Syntax := apH ``PySem.pyIter 1 :: stops0
def stops2 : List Syntax := ap ``PySem.eval [apH ``PySem.Expr.ListComp 4, holeT] :: ap ``PySem.exec [ap ``PySem.Stmt.Assign [holeT, apH ``PySem.Expr.ListComp 4, holeT], holeT] :: stops1
def ca (k : String) (t : Syntax) : Syntax := caT k t
def caP (k : String) (ts : List Syntax) : Syntax := nd (tp "case'") #[at1 "case'", nl #[nd (tp "caseArg") #[nd ``Lean.binderIdent #[mkIdent (.mkSimple k)], nl #[]]], at1 "=>", sq ts.toArray]
end

end
section
set_option Elab.async false
set_option maxRecDepth 100000
set_option maxHeartbeats 2000000
set_option linter.unusedSimpArgs false
open PySem PySem.Sre
namespace Rx

/-- the words of the compiled pattern: a dot, one figure or more, the end -/
noncomputable def C : Array Nat := #[14, 8, 1, 2, 4294967295, 1, 1, 46, 0, 16, 46, 24, 9, 1, 4294967295, 13, 4, 8, 0, 0, 1, 6, 5, 1]

/-- how far the figures go -/
noncomputable def digs (T : Array Nat) : Nat → Nat → Nat
  | 0, _ => 0
  | n + 1, p => if isDigit (T.getD p 0) = true then digs T n (p + 1) + 1 else 0

noncomputable def atEnd (T : Array Nat) (p : Nat) : Bool := p == T.size || (p + 1 == T.size && T.getD p 0 == 10)

/-- the pattern takes the text from s on -/
noncomputable def hit (T : Array Nat) (s : Nat) : Bool :=
  decide (s < T.size) && T.getD s 0 == 46 && decide (1 ≤ digs T (T.size - (s + 1)) (s + 1)) && atEnd T (s + 1 + digs T (T.size - (s + 1)) (s + 1))

theorem runFor_add (a b : Nat) (m : M) : M.runFor (a + b) m = M.runFor b (M.runFor a m) := by
  induction a generalizing m with
  | zero => rw [Nat.zero_add]; rfl
  | succ a ih =>
    rw [Nat.succ_add]
    show (if m.outcome.isSome = true then m else M.runFor (a + b) m.step) = M.runFor b (if m.outcome.isSome = true then m else M.runFor a m.step)
    cases h : m.outcome.isSome with
    | true =>
      simp only [if_true]
      cases b with
      | zero => rfl
      | succ b => show m = (if m.outcome.isSome = true then m else _); rw [h]; rfl
    | false => simp only [Bool.false_eq_true, if_false]; exact ih _

theorem runFor_one (m : M) (h : m.outcome = none) : M.runFor 1 m = m.step := by
  show (if m.outcome.isSome = true then m else M.runFor 0 m.step) = m.step
  rw [h]; rfl

/-- the run gets to an outcome within a number of steps -/
noncomputable def Gets (m : M) (r : Sre.Outcome) (n : Nat) : Prop := (M.runFor n m).outcome = some r

theorem Gets.of_step {m : M} {r : Sre.Outcome} {n : Nat} (h : m.outcome = none) (g : Gets m.step r n) : Gets m r (n + 1) := by
  unfold Gets at *
  rw [Nat.add_comm, runFor_add, runFor_one m h]; exact g
theorem Gets.more {m : M} {r : Sre.Outcome} {n k : Nat} (g : Gets m r n) (h : n ≤ k) : Gets m r k := by
  unfold Gets at *
  obtain ⟨d, rfl⟩ := Nat.le.dest h
  rw [runFor_add]
  cases d with
  | zero => exact g
  | succ d => show (if (M.runFor n m).outcome.isSome = true then M.runFor n m else _).outcome = _; rw [g]; exact g

theorem cat_dig (c : Nat) : category 0 c = .ok (isDigit c) := by
  unfold category
  simp only [Except.map]
  cases isDigit c <;> rfl
theorem acc_dig (c : Nat) (sn : Seen) : ∃ sn', accepts C 15 c sn = .ok (isDigit c, sn') := by
  have e : accepts C 15 c sn = (do if ← category 0 c then pure (true, (sn.add 8).add 55) else inSet C c 23 19 true ((sn.add 8).add 55)) := rfl
  rw [e, cat_dig]
  cases hd : isDigit c with
  | true => exact ⟨_, rfl⟩
  | false => exact ⟨_, rfl⟩

theorem run_digs (T : Array Nat) : ∀ (n p found : Nat) (seen : Seen), ∃ seen', Sre.run C T 15 n p found seen = .ok (found + digs T n p, seen') := by
  intro n
  induction n with
  | zero => intro p found seen; exact ⟨seen, rfl⟩
  | succ n ih =>
    intro p found seen
    obtain ⟨sn', e⟩ := acc_dig (T.getD p 0) seen
    unfold Sre.run digs
    rw [e]
    show ∃ seen', (if isDigit (T.getD p 0) = true then Sre.run C T 15 n (p + 1) (found + 1) sn' else pure (found, sn')) = _
    cases hd : isDigit (T.getD p 0) with
    | true =>
      simp only [if_true]
      obtain ⟨s2, e2⟩ := ih (p + 1) (found + 1) sn'
      exact ⟨s2, by rw [e2]; congr 2; (first | lia | omega)⟩
    | false => exact ⟨sn', by simp; rfl⟩

theorem digs_le (T : Array Nat) : ∀ n p, digs T n p ≤ n := by
  intro n
  induction n with
  | zero => intro p; exact Nat.le_refl _
  | succ n ih => intro p; unfold digs; split <;> have := ih (p + 1) <;> (first | lia | omega)

noncomputable abbrev S (T : Array Nat) (st ha : Nat) (ou : Bool) (mk : Array (Option Nat)) (lm li : Int) (lp : Array Loop) (sn : Seen) (pc pos : Nat) (an : Option Bool) (fr : List Sre.Frame) (wt : Nat) : M :=
  { code := C, text := T, lim := T.size, start := st, lastStart := T.size, pc := pc, pos := pos, handed := ha, outermost := ou, marks := mk, lastmark := lm, lastindex := li, loops := lp, frames := fr, weight := wt, answer := an, seen := sn }
inductive At (T : Array Nat) (m : M) (pc pos : Nat) (an : Option Bool) (fr : List Sre.Frame) (wt : Nat) : Prop
  | is (st ha ou mk lm li lp sn : _) (x1_ : m = S T st ha ou mk lm li lp sn pc pos an fr wt) : At T m pc pos an fr wt
noncomputable def F (s : Nat) (o : Bool) : Sre.Frame := { wait := .nextStart, pc := 9, pos := s, outermost := o }
noncomputable def G (q : Nat) (o : Bool) (n : Int) (k : Sre.Kept) : Sre.Frame := { wait := .giveBack, pc := 11, pos := q, outermost := o, count := n, kept := k }
variable {T : Array Nat} {m : M} {s p q : Nat} {fr : List Sre.Frame} {wt : Nat} {o o' : Bool} {n : Int} {k : Sre.Kept}

theorem At.out {pc pos : Nat} {an : Option Bool} (h : At T m pc pos an fr wt) : m.outcome = none := by
  obtain ⟨st, ha, ou, mk, lm, li, lp, sn, rfl⟩ := h; rfl
theorem lit_no (h : At T m 9 s none fr wt) (hc : ¬ (s < T.size ∧ T.getD s 0 = 46)) : At T m.step 9 s (some false) fr wt := by
  obtain ⟨st, ha, ou, mk, lm, li, lp, sn, rfl⟩ := h
  have e : (S T st ha ou mk lm li lp sn 9 s none fr wt).step = if s ≥ T.size then S T st ha ou mk lm li lp (sn.add 16) 9 s (some false) fr wt else
      match (Except.ok (T.getD s 0 == 46, sn.add 16) : Except String (Bool × Seen)) with
      | .error why => (S T st ha ou mk lm li lp (sn.add 16) 9 s none fr wt).stick why
      | .ok (false, seen) => S T st ha ou mk lm li lp seen 9 s (some false) fr wt
      | .ok (true, seen) => S T st ha ou mk lm li lp seen 11 (s + 1) none fr wt := rfl
  rw [e]
  by_cases h1 : s ≥ T.size
  · rw [if_pos h1]; exact ⟨_, _, _, _, _, _, _, _, rfl⟩
  · rw [if_neg h1]
    have h2 : (T.getD s 0 == 46) = false := by
      cases h3 : T.getD s 0 == 46 with
      | false => rfl
      | true => exact absurd ⟨by (first | lia | omega), by simpa using h3⟩ hc
    rw [h2]; exact ⟨_, _, _, _, _, _, _, _, rfl⟩
theorem lit_yes (h : At T m 9 s none fr wt) (h1 : s < T.size) (h2 : T.getD s 0 = 46) : At T m.step 11 (s + 1) none fr wt := by
  obtain ⟨st, ha, ou, mk, lm, li, lp, sn, rfl⟩ := h
  have e : (S T st ha ou mk lm li lp sn 9 s none fr wt).step = if s ≥ T.size then S T st ha ou mk lm li lp (sn.add 16) 9 s (some false) fr wt else
      match (Except.ok (T.getD s 0 == 46, sn.add 16) : Except String (Bool × Seen)) with
      | .error why => (S T st ha ou mk lm li lp (sn.add 16) 9 s none fr wt).stick why
      | .ok (false, seen) => S T st ha ou mk lm li lp seen 9 s (some false) fr wt
      | .ok (true, seen) => S T st ha ou mk lm li lp seen 11 (s + 1) none fr wt := rfl
  rw [e, if_neg (by (first | lia | omega)), show (T.getD s 0 == 46) = true from by rw [h2]; rfl]
  exact ⟨_, _, _, _, _, _, _, _, rfl⟩
theorem next_no {pc pos : Nat} (h : At T m pc pos (some false) [F s o] 1) (h1 : s < T.size) : ∃ o', At T m.step 9 (s + 1) none [F (s + 1) o'] 1 := by
  obtain ⟨st, ha, ou, mk, lm, li, lp, sn, rfl⟩ := h
  have e : (S T st ha ou mk lm li lp sn pc pos (some false) [F s o] 1).step = if s < T.size then S T (s + 1) (s + 1) false mk (-1) (-1) lp sn 9 (s + 1) none [F (s + 1) false] 1 else S T st ha o mk lm li lp sn 9 s (some false) [] 0 := rfl
  rw [e, if_pos h1]; exact ⟨_, _, _, _, _, _, _, _, _, rfl⟩
theorem next_over {pc pos : Nat} (h : At T m pc pos (some false) [F s o] 1) (h1 : ¬ s < T.size) : At T m.step 9 s (some false) [] 0 := by
  obtain ⟨st, ha, ou, mk, lm, li, lp, sn, rfl⟩ := h
  have e : (S T st ha ou mk lm li lp sn pc pos (some false) [F s o] 1).step = if s < T.size then S T (s + 1) (s + 1) false mk (-1) (-1) lp sn 9 (s + 1) none [F (s + 1) false] 1 else S T st ha o mk lm li lp sn 9 s (some false) [] 0 := rfl
  rw [e, if_neg h1]; exact ⟨_, _, _, _, _, _, _, _, rfl⟩
theorem next_yes {pc pos : Nat} (h : At T m pc pos (some true) [F s o] 1) : At T m.step 9 s (some true) [] 0 := by
  obtain ⟨st, ha, ou, mk, lm, li, lp, sn, rfl⟩ := h
  exact ⟨_, _, _, _, _, _, _, _, rfl⟩
theorem ends {pc pos : Nat} {b : Bool} (h : At T m pc pos (some b) [] 0) : m.step.outcome = some (if b then .matched else .failed) := by
  obtain ⟨st, ha, ou, mk, lm, li, lp, sn, rfl⟩ := h
  rfl
theorem rep (h : At T m 11 p none [F s o] 1) (hp : p ≤ T.size) (hz : T.size ≤ 4294967295) :
    (digs T (T.size - p) p = 0 ∧ ∃ pc pos, At T m.step pc pos (some false) [F s o] 1) ∨
    (1 ≤ digs T (T.size - p) p ∧ ∃ o' k, k.marks = #[] ∧ k.whole = false ∧ At T m.step 21 (p + digs T (T.size - p) p) none [G (p + digs T (T.size - p) p) o' (digs T (T.size - p) p : Nat) k, F s o] 2) := by
  obtain ⟨st, ha, ou, mk, lm, li, lp, sn, rfl⟩ := h
  obtain ⟨seen', e1⟩ := run_digs T (T.size - p) p 0 ((sn.add 24).add 13)
  have e : (S T st ha ou mk lm li lp sn 11 p none [F s o] 1).step =
      if ((1 : Nat) : Int) > (T.size : Int) - (p : Int) then S T st ha ou mk lm li lp (sn.add 24) 11 p (some false) [F s o] 1 else
      match Sre.run C T 15 (min 4294967295 ((T.size : Int) - (p : Int)).toNat) p 0 ((sn.add 24).add 13) with
      | .error why => (S T st ha ou mk lm li lp (sn.add 24) 11 p none [F s o] 1).stick why
      | .ok (n, seen) => if n < 1 then S T st ha ou mk lm li lp seen 11 p (some false) [F s o] 1 else
          S T st (p + n) ou mk lm li lp seen 21 (p + n) none [G (p + n) ou (n : Nat) { lastmark := lm, lastindex := li }, F s o] 2 := rfl
  rw [e]
  have e2 : ((T.size : Int) - (p : Int)).toNat = T.size - p := natSub hp
  rw [e2, Nat.min_eq_right (Nat.le_trans (Nat.sub_le _ _) hz), e1]
  simp only [Nat.zero_add]
  have hle := digs_le T (T.size - p) p
  by_cases h1 : ((1 : Nat) : Int) > (T.size : Int) - (p : Int)
  · rw [if_pos h1]; exact .inl ⟨by (first | lia | omega), _, _, _, _, _, _, _, _, _, _, rfl⟩
  · rw [if_neg h1]
    by_cases h2 : digs T (T.size - p) p < 1
    · rw [if_pos h2]; exact .inl ⟨by (first | lia | omega), _, _, _, _, _, _, _, _, _, _, rfl⟩
    · rw [if_neg h2]; exact .inr ⟨by (first | lia | omega), _, _, rfl, rfl, _, _, _, _, _, _, _, _, rfl⟩
theorem at_end (h : At T m 21 q none fr wt) : (atEnd T q = true ∧ At T m.step 23 q none fr wt) ∨ (atEnd T q = false ∧ At T m.step 21 q (some false) fr wt) := by
  obtain ⟨st, ha, ou, mk, lm, li, lp, sn, rfl⟩ := h
  have e : (S T st ha ou mk lm li lp sn 21 q none fr wt).step = if atEnd T q = true then S T st ha ou mk lm li lp ((sn.add 6).add 48) 23 q none fr wt else S T st ha ou mk lm li lp ((sn.add 6).add 48) 21 q (some false) fr wt := rfl
  rw [e]
  cases h1 : atEnd T q with
  | true => rw [if_pos rfl]; exact .inl ⟨rfl, _, _, _, _, _, _, _, _, rfl⟩
  | false => rw [if_neg (by decide)]; exact .inr ⟨rfl, _, _, _, _, _, _, _, _, rfl⟩
theorem succ (h : At T m 23 q none fr wt) : At T m.step 23 q (some true) fr wt := by
  obtain ⟨st, ha, ou, mk, lm, li, lp, sn, rfl⟩ := h
  have e : (S T st ha ou mk lm li lp sn 23 q none fr wt).step = if (ou && (false || false)) = true then S T st ha ou mk lm li lp (sn.add 1) 23 q (some false) fr wt else S T st q ou mk lm li lp (sn.add 1) 23 q (some true) fr wt := rfl
  rw [e, if_neg (by simp)]
  exact ⟨_, _, _, _, _, _, _, _, rfl⟩
theorem give_yes {pc pos : Nat} (hk : k.marks = #[]) (h : At T m pc pos (some true) [G q o n k, F s o'] 2) : ∃ pc pos, At T m.step pc pos (some true) [F s o'] 1 := by
  obtain ⟨st, ha, ou, mk, lm, li, lp, sn, rfl⟩ := h
  obtain ⟨k1, k2, k3, k4⟩ := k
  simp only at hk
  subst hk
  exact ⟨_, _, _, _, _, _, _, _, _, _, rfl⟩
theorem give_no {pc pos : Nat} (hk : k.marks = #[]) (hw : k.whole = false) (h : At T m pc pos (some false) [G q o n k, F s o'] 2) :
    (n - 1 < 1 ∧ ∃ pc pos, At T m.step pc pos (some false) [F s o'] 1) ∨ (¬ n - 1 < 1 ∧ ∃ o2, At T m.step 21 (q - 1) none [G (q - 1) o2 (n - 1) k, F s o'] 2) := by
  obtain ⟨st, ha, ou, mk, lm, li, lp, sn, rfl⟩ := h
  obtain ⟨k1, k2, k3, k4⟩ := k
  simp only at hk hw
  subst hk hw
  have e : (S T st ha ou mk lm li lp sn pc pos (some false) [G q o n { lastmark := k1, lastindex := k2, whole := false, marks := #[] }, F s o'] 2).step =
      if n - 1 < ((1 : Nat) : Int) then S T st ha o mk k1 k2 lp sn 11 q (some false) [F s o'] 1 else S T st (q - 1) o mk k1 k2 lp sn 21 (q - 1) none [G (q - 1) o (n - 1) { lastmark := k1, lastindex := k2, whole := false, marks := #[] }, F s o'] 2 := rfl
  rw [e]
  by_cases h1 : n - 1 < ((1 : Nat) : Int)
  · rw [if_pos h1]; exact .inl ⟨h1, _, _, _, _, _, _, _, _, _, _, rfl⟩
  · rw [if_neg h1]; exact .inr ⟨h1, _, _, _, _, _, _, _, _, _, rfl⟩

theorem back {r : Sre.Outcome} {K p0 : Nat} (hF : ∀ (m : M) (pc pos : Nat), At T m pc pos (some false) [F s o'] 1 → Gets m r K) (hk : k.marks = #[]) (hw : k.whole = false) :
    ∀ (j : Nat) (m : M) (o : Bool), 1 ≤ j → (∀ i, 1 ≤ i → i ≤ j → atEnd T (p0 + i) = false) → At T m 21 (p0 + j) none [G (p0 + j) o (j : Nat) k, F s o'] 2 → Gets m r (K + 2 * j) := by
  intro j
  induction j with
  | zero => intro m o h; (first | lia | omega)
  | succ j ih =>
    intro m o _ hno h
    rcases at_end h with ⟨h1, _⟩ | ⟨_, h2⟩
    · rw [hno (j + 1) (by (first | lia | omega)) (Nat.le_refl _)] at h1; cases h1
    · have h3 : Gets m.step r (K + 2 * j + 1) := by
        rcases give_no hk hw h2 with ⟨h4, pc, pos, h5⟩ | ⟨h4, o2, h5⟩
        · exact (Gets.of_step h2.out (hF _ _ _ h5)).more (by (first | lia | omega))
        · have hj : 1 ≤ j := by (first | lia | omega)
          have e1 : p0 + (j + 1) - 1 = p0 + j := by (first | lia | omega)
          have e2 : ((j + 1 : Nat) : Int) - 1 = (j : Nat) := by (first | lia | omega)
          rw [e1, e2] at h5
          exact Gets.of_step h2.out (ih _ _ hj (fun i a b => hno i a (by (first | lia | omega))) h5)
      exact (Gets.of_step h.out h3).more (by (first | lia | omega))

noncomputable def hits (T : Array Nat) : Nat → Nat → Bool
  | 0, s => hit T s
  | n + 1, s => hit T s || hits T n (s + 1)

theorem digs_digit (T : Array Nat) : ∀ n p i, i < digs T n p → isDigit (T.getD (p + i) 0) = true ∧ i < n := by
  intro n
  induction n with
  | zero => intro p i h; exact absurd h (Nat.not_lt_zero _)
  | succ n ih =>
    intro p i h
    unfold digs at h
    split at h
    · rename_i hd
      cases i with
      | zero => exact ⟨hd, by (first | lia | omega)⟩
      | succ i =>
        have := ih (p + 1) i (by (first | lia | omega))
        rw [show p + (i + 1) = p + 1 + i from by (first | lia | omega)]; exact ⟨this.1, by (first | lia | omega)⟩
    · exact absurd h (Nat.not_lt_zero _)
theorem in_no_end {p i : Nat} (h1 : i < digs T (T.size - p) p) : atEnd T (p + i) = false := by
  obtain ⟨hd, hi⟩ := digs_digit T _ _ _ h1
  unfold atEnd
  have h2 : (p + i == T.size) = false := by simpa using (show p + i ≠ T.size from Nat.ne_of_lt (Nat.add_lt_of_lt_sub' hi))
  have h3 : (T.getD (p + i) 0 == 10) = false := by
    cases h : T.getD (p + i) 0 == 10 with
    | false => rfl
    | true => rw [beq_iff_eq.mp h] at hd; cases hd
  rw [h2, h3]; simp

theorem gets : ∀ (d s : Nat) (m : M) (o : Bool), s + d = T.size → T.size ≤ 1000000 → At T m 9 s none [F s o] 1 → Gets m (if hits T d s then .matched else .failed) ((d + 1) * (2 * T.size + 10)) := by
  intro d
  induction d with
  | zero =>
    intro s m o hs hz h
    have hn : ¬ s < T.size := by (first | lia | omega)
    have h1 : hits T 0 s = false := by unfold hits hit; simp [hn]
    rw [h1]
    have g1 := lit_no h fun x => hn x.1
    have g2 := next_over g1 hn
    have g3 := ends g2
    exact (Gets.of_step h.out (Gets.of_step g1.out (Gets.of_step (n := 0) g2.out g3))).more (by (first | lia | omega))
  | succ d ih =>
    intro s m o hs hz h
    have hlt : s < T.size := by (first | lia | omega)
    have hF : ∀ (o' : Bool) (m : M) (pc pos : Nat), At T m pc pos (some false) [F s o'] 1 → Gets m (if hits T d (s + 1) then .matched else .failed) ((d + 1) * (2 * T.size + 10) + 1) := by
      intro o' m pc pos h
      obtain ⟨o2, h2⟩ := next_no h hlt
      exact Gets.of_step h.out (ih (s + 1) _ o2 (by (first | lia | omega)) hz h2)
    have hno : hit T s = false → (if hits T (d + 1) s then Sre.Outcome.matched else .failed) = (if hits T d (s + 1) then .matched else .failed) := by
      intro e; rw [show hits T (d + 1) s = (hit T s || hits T d (s + 1)) from rfl, e, Bool.false_or]
    have hK : (d + 1 + 1) * (2 * T.size + 10) = (d + 1) * (2 * T.size + 10) + (2 * T.size + 10) := by rw [Nat.succ_mul]
    by_cases hc : T.getD s 0 = 46
    · have g1 := lit_yes h hlt hc
      rcases rep g1 (by (first | lia | omega)) (by (first | lia | omega)) with ⟨h0, pc, pos, g2⟩ | ⟨h0, o', k, hk, hw, g2⟩
      · rw [hno (by unfold hit; rw [h0]; simp)]
        exact (Gets.of_step h.out (Gets.of_step g1.out (hF _ _ _ _ g2))).more (by (first | lia | omega))
      · have hle := digs_le T (T.size - (s + 1)) (s + 1)
        by_cases he : atEnd T (s + 1 + digs T (T.size - (s + 1)) (s + 1)) = true
        · have hh : hit T s = true := by unfold hit; rw [he]; simp [hlt, hc]; (first | lia | omega)
          have : hits T (d + 1) s = true := by unfold hits; rw [hh]; rfl
          rw [this]
          rcases at_end g2 with ⟨_, g3⟩ | ⟨x, _⟩
          · have g4 := succ g3
            obtain ⟨pc, pos, g5⟩ := give_yes hk g4
            have g6 := next_yes g5
            have g7 := ends g6
            exact (Gets.of_step h.out (Gets.of_step g1.out (Gets.of_step g2.out (Gets.of_step g3.out (Gets.of_step g4.out (Gets.of_step g5.out (Gets.of_step (n := 0) g6.out g7))))))).more (by (first | lia | omega))
          · rw [he] at x; cases x
        · have hh : hit T s = false := by unfold hit; rw [eq_false_of_ne_true he]; simp
          rw [hno hh]
          have := back (K := (d + 1) * (2 * T.size + 10) + 1) (p0 := s + 1) (hF o) hk hw _ _ _ h0 (fun i a b => by
            rcases Nat.lt_or_eq_of_le b with b | b
            · exact in_no_end b
            · rw [b]; exact eq_false_of_ne_true he) g2
          exact (Gets.of_step h.out (Gets.of_step g1.out this)).more (by (first | lia | omega))
    · have g1 := lit_no h fun x => hc x.2
      rw [hno (by unfold hit; rw [beq_eq_false_iff_ne.mpr hc]; simp)]
      exact (Gets.of_step h.out (hF _ _ _ _ g1)).more (by (first | lia | omega))

theorem hit_two {s : Nat} (h : hit T s = true) : 2 ≤ T.size := by
  unfold hit at h
  simp only [Bool.and_eq_true, decide_eq_true_eq] at h
  exact Nat.le_trans (Nat.le_add_left 2 s) (Nat.lt_of_sub_pos (Nat.lt_of_lt_of_le h.1.2 (digs_le T (T.size - (s + 1)) (s + 1))))
theorem hits_two : ∀ (d s : Nat), hits T d s = true → 2 ≤ T.size := by
  intro d
  induction d with
  | zero => intro s h; exact hit_two h
  | succ d ih =>
    intro s h
    rw [show hits T (d + 1) s = (hit T s || hits T d (s + 1)) from rfl, Bool.or_eq_true] at h
    exact h.elim hit_two (ih _)

theorem search_gets (T : Array Nat) (hz : T.size ≤ 1000000) : Gets (forSearch C T 0 0 T.size false) (if hits T T.size 0 then .matched else .failed) ((T.size + 1) * (2 * T.size + 10)) := by
  have e : forSearch C T 0 0 T.size false = if (decide (0 > T.size) || decide (T.size - 0 < 2)) = true then ({ code := C, text := T, lim := T.size, start := 0, pc := 9, pos := 0, handed := 0, marks := #[], answer := some false, seen := ({} : Seen).add 14 } : M) else S T 0 0 true #[] (-1) (-1) #[] (({} : Seen).add 14) 9 0 none [F 0 true] 1 := rfl
  rw [e]
  by_cases h : T.size < 2
  · rw [if_pos (by simp; (first | lia | omega))]
    have : hits T T.size 0 = false := by
      cases h1 : hits T T.size 0 with
      | false => rfl
      | true => have := hits_two _ _ h1; (first | lia | omega)
    rw [this]
    exact (Gets.of_step (n := 0) rfl (by unfold Gets; rfl)).more (by have : 1 ≤ (T.size + 1) * (2 * T.size + 10) := Nat.mul_pos (by (first | lia | omega)) (by (first | lia | omega)); (first | lia | omega))
  · rw [if_neg (by simp; (first | lia | omega))]
    exact gets T.size 0 _ true (by (first | lia | omega)) hz ⟨_, _, _, _, _, _, _, _, rfl⟩

section
open PySem.Builtin PySem.Builtin.Re
variable {Mo : Model} {A : Around} {E : Value → Shared → Prop} {s : Shared}

theorem drive {Q : M → Shared → Prop} {r : Sre.Outcome} : ∀ (n turns : Nat) (m : M), n < turns → Gets m r (4 * n) → (∀ m', m'.outcome = some r → Q m' s) → wpAny Mo A (reDrive turns m) Q E s := by
  intro n
  induction n with
  | zero =>
    intro turns m ht g h
    cases turns with
    | zero => (first | lia | omega)
    | succ turns =>
      have g0 : m.outcome = some r := g
      have e : M.runFor reTurnSteps m = m := by show (if m.outcome.isSome = true then m else _) = m; rw [g0]; rfl
      show wpAny Mo A (if (M.runFor reTurnSteps m).outcome.isSome = true then pure (M.runFor reTurnSteps m) else _) Q E s
      rw [e, g0]
      exact wpAny_pure (h m g0)
  | succ n ih =>
    intro turns m ht g h
    cases turns with
    | zero => (first | lia | omega)
    | succ turns =>
      show wpAny Mo A (if (M.runFor reTurnSteps m).outcome.isSome = true then pure (M.runFor reTurnSteps m) else (do PySem.rule "sre.turn"; reDrive turns (M.runFor reTurnSteps m))) Q E s
      have g1 : Gets (M.runFor reTurnSteps m) r (4 * n) := by
        unfold Gets at *
        rw [show (4 * (n + 1) : Nat) = reTurnSteps + 4 * n from by unfold reTurnSteps; (first | lia | omega), runFor_add] at g
        exact g
      cases hc : (M.runFor reTurnSteps m).outcome with
      | some r' =>
        have : r' = r := by
          have g2 := g1
          unfold Gets at g2
          cases hn : 4 * n with
          | zero => rw [hn] at g2; change (M.runFor reTurnSteps m).outcome = some r at g2; rw [hc] at g2; cases g2; rfl
          | succ k =>
            rw [hn] at g2
            change (if (M.runFor reTurnSteps m).outcome.isSome = true then M.runFor reTurnSteps m else _).outcome = some r at g2
            rw [hc] at g2
            simp only [Option.isSome_some, if_true] at g2
            rw [hc] at g2; cases g2; rfl
        subst this
        exact wpAny_pure (h _ hc)
      | none => exact wpAny_bind (wpAny_rule (ih turns _ (by (first | lia | omega)) g1 h))

theorem says {Q : PUnit → Shared → Prop} {f : Nat → Bool} {g : Nat → String} (h : Q ⟨⟩ s) : ∀ l : List Nat,
    wpAny Mo A (forIn l PUnit.unit fun i _ => do
      if f i = true then PySem.rule (g i)
      pure (ForInStep.yield PUnit.unit)) Q E s
  | [] => wpAny_pure h
  | i :: l => by
    rw [List.forIn_cons]
    refine wpAny_bind ?_
    dsimp only
    by_cases hi : f i = true
    · rw [if_pos hi]; exact wpAny_bind (wpAny_rule (wpAny_pure (says h l)))
    · rw [if_neg hi]; exact wpAny_pure (says h l)

theorem runToEnd {m : M} {r : Bool} {n : Nat} {Q : Option M → Shared → Prop} (g : Gets m (if r then .matched else .failed) (4 * n)) (hn : n < 2 ^ 64)
    (h1 : r = true → ∀ m', Q (some m') s) (h2 : r = false → Q none s) : wpAny Mo A (reRunToEnd m) Q E s := by
  unfold reRunToEnd
  refine wpAny_bind (drive n (2 ^ 64) m hn g fun m' hm' => ?_)
  refine wpAny_bind (says ?_ _)
  rw [hm']
  cases r with
  | true => exact wpAny_pure (h1 rfl m')
  | false => exact wpAny_pure (h2 rfl)
end

section
open PySem.Builtin PySem.Builtin.Re PySem.Calls
variable {prog : Program} {w : World} {A : Around} {E : Value → Shared → Prop} {s : Shared}

theorem slot_search : Slot "re.Pattern" "search" "re.Pattern.search" :=
  .of (owner := "re.Pattern") (n := "search") (by rw [typeLookup_type, builtinLookup_eq_fast]; kernel_rfl) (by decide +kernel) (by decide +kernel) (by decide +kernel)
    (by first | exact .inl (by decide +kernel) | exact .inr (by decide +kernel)) (by rw [isSubtype_type]; kernel_rfl)
theorem type_search : typeOf (.builtin "re.Pattern.search") = pure (.type "method_descriptor") := by show builtinType _ = _; rw [builtinType_eq_fast]; kernel_rfl
theorem entry_search : entryFor table "re.Pattern.search" = some Builtin.«re.Pattern.search» := entryFor_of_tree (by kernel_rfl)
theorem args_search (a b : Value) : argsOk "re.Pattern.search" ⟨[a, b], []⟩ := by
  unfold argsOk; kernel_rfl
theorem attrs_pattern : PlainAttrs "re.Pattern" := ⟨⟨"object.__getattribute__", by rw [typeLookup_type, builtinLookup_eq_fast]; kernel_rfl, by decide +kernel⟩, by rw [typeLookup_type, builtinLookup_eq_fast]; kernel_rfl⟩
theorem target (X : (Mine.hd.heap_1 w.params).In s.heap) {t : Str} {tk : Tok} {Q : ReTarget → Shared → Prop}
    (h : Q { pattern := .ref 36, string := .str t tk, code := C, text := t.cps, kind := 0, groups := 0, pos := min (0 : Int).toNat t.cps.size, lim := min (2 ^ 63 - 1 : Int).toNat t.cps.size } s) :
    wpAny (model prog w) A (reTarget "re.Pattern.search" "search" ⟨[.ref 36, .str t tk], []⟩) Q E s :=
  (PySem.W.Looks.of_peek (K := Mine.hd.heap_1 w.params) (M := model prog w) X (by kernel_rfl)).here h

noncomputable def ipv4 (t : Str) : Bool := hits t.cps t.cps.size 0

theorem newMatch_none {t : Str} {tk : Tok} {p l : Nat} {m : M} {Q : Value → Shared → Prop}
    (h : ∀ h' r, (∀ b o, s.heap.get? b = some o → h'.get? b = some o) → s.heap.get? r = none → (∃ o, h'.get? r = some o ∧ o.cls = .type "re.Match") → Q (.ref r) { s with heap := h' }) :
    wpAny (model prog w) A (reNewMatch (.ref 36) (.str t tk) 0 p l m) Q E s := by
  unfold reNewMatch
  simp only [List.range_zero, List.flatMap_nil, List.any_nil, Bool.false_eq_true, if_false]
  refine wpAny_bind (wpAny_newObj_type (wpAny_newObj_type ?_))
  refine h _ _ (fun b o e => Heap.get?_push_of_some _ (Heap.get?_push_of_some _ e)) ?_ ⟨_, Heap.get?_push_size _ rfl, rfl⟩
  cases e : s.heap.get? ((s.heap.push _).objs.size) with
  | none => rfl
  | some o' => have := Heap.lt_size e; rw [Heap.size_push] at this; exact absurd this (Nat.not_lt.mpr (Nat.le_succ _))

theorem call_search (X : (Mine.hd.heap_1 w.params).In s.heap) {t : Str} {tk : Tok} {Q : Value → Shared → Prop} (hz : t.cps.size ≤ 1000000)
    (h0 : ipv4 t = false → Q .none s)
    (h1 : ipv4 t = true → ∀ h' r, (∀ b o, s.heap.get? b = some o → h'.get? b = some o) → s.heap.get? r = none → (∃ o, h'.get? r = some o ∧ o.cls = .type "re.Match") → Q (.ref r) { s with heap := h' }) :
    wpAny (model prog w) A (call (.builtin "re.Pattern.search") [.ref 36, .str t tk]) Q E s := by
  have hT : s.TypeIs (.ref 36) "re.Pattern" := ⟨_, X 36 _ rfl, rfl⟩
  refine wpAny_call_entry slot_search hT entry_search ?_ (args_search _ _)
  unfold Builtin.«re.Pattern.search»
  refine wpAny_bind (target X ?_)
  dsimp only
  have e1 : min (0 : Int).toNat t.cps.size = 0 := by simp
  have e2 : min (2 ^ 63 - 1 : Int).toNat t.cps.size = t.cps.size := Nat.min_eq_right (by (first | lia | omega))
  rw [e1, e2]
  unfold reAnswer
  dsimp only
  have g := (search_gets t.cps hz).more (k := 4 * ((t.cps.size + 1) * (2 * t.cps.size + 10))) (by (first | lia | omega))
  have hb : (t.cps.size + 1) * (2 * t.cps.size + 10) < 2 ^ 64 := by
    have : (t.cps.size + 1) * (2 * t.cps.size + 10) ≤ 1000001 * 2000010 := Nat.mul_le_mul (by (first | lia | omega)) (by (first | lia | omega))
    (first | lia | omega)
  refine wpAny_bind (runToEnd g hb (fun hr m' => ?_) fun hr => ?_)
  · exact wpAny_bind (newMatch_none fun h' r k f o => wpAny_pure ⟨_, rfl, h1 hr h' r k f o⟩)
  · exact wpAny_pure ⟨_, rfl, h0 hr⟩
theorem getMethod_search (X : (Mine.hd.heap_1 w.params).In s.heap) {pl : Sem Bool} {Q : Value × List Value → Shared → Prop} (h : Q (.builtin "re.Pattern.search", [.ref 36]) s) :
    wpAny (model prog w) A (getMethod (.ref 36) "search" pl) Q E s :=
  _root_.PySem.getMethod_builtin ⟨_, X 36 _ rfl, rfl⟩ attrs_pattern slot_search type_search (fun a e => by cases e; exact ⟨_, X 36 _ rfl, rfl⟩) h
end
end Rx

end
section
set_option Elab.async false
set_option maxRecDepth 100000
set_option maxHeartbeats 2000000
set_option linter.unusedSimpArgs false
open PySem PySem.Builtin PySem.Builtin.Str
noncomputable abbrev mk (l : List Nat) : PySem.Str := ⟨l.toArray⟩
noncomputable def lowc (c : Nat) : Nat := if 65 ≤ c ∧ c ≤ 90 then c + 32 else c
noncomputable def upc (c : Nat) : Nat := if 97 ≤ c ∧ c ≤ 122 then c - 32 else c
noncomputable abbrev low (l : List Nat) : List Nat := l.map lowc
noncomputable abbrev up (l : List Nat) : List Nat := l.map upc
noncomputable def Asc (l : List Nat) : Prop := ∀ c ∈ l, c < 128

theorem mk_inj {a b : List Nat} (h : mk a = mk b) : a = b := by
  have := congrArg (fun x => x.cps.toList) h
  simpa using this
theorem mk_beq (a b : List Nat) : (mk a == mk b) = decide (a = b) := by
  by_cases h : a = b
  · subst h; simp
  · rw [decide_eq_false h]
    cases e : mk a == mk b with
    | false => rfl
    | true => exact absurd (mk_inj (beq_iff_eq.mp e)) h
theorem mk_len (l : List Nat) : (mk l).length = l.length := by simp [PySem.Str.length]
theorem mk_app (a b : List Nat) : mk a ++ mk b = mk (a ++ b) := PySem.Str.ext' (by simp [PySem.Str.cps_append])

theorem asc_low {l : List Nat} (h : Asc l) : Asc (low l) := by
  intro c hc
  obtain ⟨d, hd, rfl⟩ := List.mem_map.mp hc
  have := h d hd
  unfold lowc; split <;> (first | lia | omega)
theorem asc_up {l : List Nat} (h : Asc l) : Asc (up l) := by
  intro c hc
  obtain ⟨d, hd, rfl⟩ := List.mem_map.mp hc
  have := h d hd
  unfold upc; split <;> (first | lia | omega)
theorem asc_drop {l : List Nat} {n : Nat} (h : Asc l) : Asc (l.drop n) := fun c hc => h c (List.mem_of_mem_drop hc)
theorem asc_take {l : List Nat} {n : Nat} (h : Asc l) : Asc (l.take n) := fun c hc => h c (List.mem_of_mem_take hc)
theorem asc_app {a b : List Nat} (h : Asc a) (k : Asc b) : Asc (a ++ b) := fun c hc => (List.mem_append.mp hc).elim (h c) (k c)

noncomputable def lowTab : List (List Nat) := (List.range 128).map fun c => Unicode.lowerOf c
noncomputable def upTab : List (List Nat) := (List.range 128).map fun c => Unicode.upperOf c
theorem lowTab_ok : ∀ c < 128, Unicode.lowerOf c = [lowc c] := by decide +kernel
theorem upTab_ok : ∀ c < 128, Unicode.upperOf c = [upc c] := by decide +kernel

theorem flat_one (l : List Nat) (f : Nat → Nat → List Nat) (g : Nat → Nat) : ∀ (h : ∀ i c, l[i]? = some c → f i c = [g c]), placed (mk l) f = (l.map g).toArray := by
  intro h
  unfold placed
  apply Array.ext'
  simp only [Array.toList_flatten, Array.toList_mapIdx]
  have e : ∀ (l : List Nat) (f : Nat → Nat → List Nat), (∀ i c, l[i]? = some c → f i c = [g c]) → (List.map Array.toList (l.mapIdx fun i c => (f i c).toArray)).flatten = l.map g := by
    intro l
    induction l with
    | nil => intro f _; rfl
    | cons a r ih =>
      intro f h
      rw [List.mapIdx_cons, List.map_cons, List.flatten_cons, ih (fun i c => f (i + 1) c) (fun i c e => h (i + 1) c (by simpa using e)), h 0 a rfl]; rfl
  exact e l f h
theorem lower_mk {l : List Nat} (h : Asc l) : Txt.lower (mk l) = mk (low l) := by
  unfold Txt.lower
  rw [flat_one l _ lowc]
  intro i c e
  have hm : c ∈ l := List.mem_of_getElem? e
  have hc := h c hm
  unfold Unicode.lowerAt
  simp only [List.getElem?_toArray, e]
  rw [if_neg (by have : (c == 931) = false := beq_eq_false_iff_ne.mpr (by (first | lia | omega)); simp [this])]
  exact lowTab_ok c hc
theorem upper_mk {l : List Nat} (h : Asc l) : Txt.upper (mk l) = mk (up l) := by
  unfold Txt.upper
  rw [flat_one l _ upc]
  intro i c e
  exact upTab_ok c (h c (List.mem_of_getElem? e))

theorem starts_mk (l k : List Nat) : Txt.startswith (mk l) (mk k) = k.isPrefixOf l := by
  unfold Txt.startswith
  rw [StrLaws.subAt_eq, mk_len, mk_len]
  rw [Bool.eq_iff_iff]
  simp only [Bool.and_eq_true, decide_eq_true_eq, beq_iff_eq, List.isPrefixOf_iff_prefix]
  constructor
  · rintro ⟨h1, h2⟩
    have h2' : List.take k.length l = k := by simpa using h2
    exact ⟨l.drop k.length, by have := List.take_append_drop k.length l; rw [h2'] at this; exact this⟩
  · rintro ⟨t, rfl⟩
    refine ⟨by simp, by simp⟩
theorem ends_mk (l k : List Nat) : Txt.endswith (mk l) (mk k) = k.isSuffixOf l := by
  unfold Txt.endswith
  rw [StrLaws.subAt_eq, mk_len, mk_len]
  rw [Bool.eq_iff_iff]
  simp only [Bool.and_eq_true, decide_eq_true_eq, beq_iff_eq, List.isSuffixOf_iff_suffix]
  constructor
  · rintro ⟨h1, h2⟩
    have h2' : List.take k.length (List.drop (l.length - k.length) l) = k := by simpa using h2
    have h3 : (List.drop (l.length - k.length) l).length = k.length := by rw [List.length_drop, Nat.sub_sub_self (by simpa using h1)]
    rw [List.take_of_length_le (Nat.le_of_eq h3)] at h2'
    exact ⟨l.take (l.length - k.length), by have := List.take_append_drop (l.length - k.length) l; rw [h2'] at this; exact this⟩
  · rintro ⟨t, rfl⟩
    refine ⟨by simp, ?_⟩
    have : (t ++ k).length - k.length = t.length := by simp
    rw [this]; simp

/-! finding -/
theorem At_mk (l k : List Nat) (i : Nat) : (i + (mk k).length ≤ (mk l).length ∧ subAt (mk l) (mk k) i = true) ↔ i + k.length ≤ l.length ∧ (l.drop i).take k.length = k := by
  rw [StrLaws.subAt_eq, mk_len, mk_len]
  simp
noncomputable def idx (l : List Nat) (c : Nat) : Int := if c ∈ l then (l.idxOf c : Int) else -1
theorem idx_pos (l : List Nat) (c : Nat) : 0 ≤ idx l c + 1 := by unfold idx; split <;> (first | lia | omega)
theorem idx_ok (l : List Nat) (c : Nat) : 0 ≤ idx l c ↔ c ∈ l := by unfold idx; split <;> simp_all <;> (first | lia | omega)
theorem drop_take_one {l : List Nat} {i c : Nat} : (i + 1 ≤ l.length ∧ (l.drop i).take 1 = [c]) ↔ l[i]? = some c := by
  constructor
  · rintro ⟨h1, h2⟩
    have : (l.drop i)[0]? = some c := by
      cases e : l.drop i with
      | nil => rw [e] at h2; cases h2
      | cons a r => rw [e] at h2; simp at h2; simp [h2]
    simpa using this
  · intro h
    have hl : i < l.length := (List.getElem?_eq_some_iff.mp h).1
    refine ⟨hl, ?_⟩
    rw [List.drop_eq_getElem_cons hl, (List.getElem?_eq_some_iff.mp h).2]
    rfl

theorem sAt_mk (l k : List Nat) (i : Nat) : StrLaws.At (mk l) (mk k) (mk l).length i ↔ i + k.length ≤ l.length ∧ (l.drop i).take k.length = k := At_mk l k i
theorem idxOf_first {l : List Nat} {c i : Nat} (h1 : l[i]? = some c) (h2 : ∀ k, k < i → l[k]? ≠ some c) : l.idxOf c = i := by
  induction l generalizing i with
  | nil => simp at h1
  | cons a r ih =>
    cases i with
    | zero => simp at h1; subst h1; simp
    | succ i =>
      have ha : a ≠ c := fun e => h2 0 (by (first | lia | omega)) (by simp [e])
      rw [List.idxOf_cons]
      rw [show (a == c) = false from beq_eq_false_iff_ne.mpr ha]
      have := ih (i := i) (by simpa using h1) (fun k hk => by have := h2 (k + 1) (by (first | lia | omega)); simpa using this)
      simp [this]
theorem occ_mk (l : List Nat) (c limit : Nat) (hl : 1 ≤ limit) : (c ∉ l ∧ occurrences (mk l) (mk [c]) 0 (mk l).length limit = []) ∨ (c ∈ l ∧ ∃ r, occurrences (mk l) (mk [c]) 0 (mk l).length limit = l.idxOf c :: r) := by
  have key : ∀ i, StrLaws.At (mk l) (mk [c]) (mk l).length i ↔ l[i]? = some c := fun i => (sAt_mk l [c] i).trans drop_take_one
  rcases StrLaws.occ_head (mk l) (mk [c]) limit hl with ⟨h1, h2⟩ | ⟨i, r, h1, h2, h3⟩
  · refine .inl ⟨fun hm => ?_, h1⟩
    obtain ⟨i, hi⟩ := List.mem_iff_getElem?.mp hm
    exact h2 i ((key i).mpr hi)
  · have h2' := (key i).mp h2
    refine .inr ⟨List.mem_of_getElem? h2', r, ?_⟩
    rw [h1, idxOf_first h2' fun k hk e => h3 k hk ((key k).mpr e)]
theorem find_mk (l : List Nat) (c : Nat) : Txt.find (mk l) (mk [c]) = idx l c := by
  unfold Txt.find idx
  rcases occ_mk l c 1 (Nat.le_refl _) with ⟨h1, h2⟩ | ⟨h1, r, h2⟩
  · rw [h2, if_neg h1]
  · rw [h2, if_pos h1]
/-- it stands somewhere behind the first sign -/
noncomputable def inside (l k : List Nat) : Prop := ∃ i, 1 ≤ i ∧ i + k.length ≤ l.length ∧ (l.drop i).take k.length = k
theorem rfind_mk (l k : List Nat) : (Txt.rfind (mk l) (mk k) = -1 ∨ Txt.rfind (mk l) (mk k) = 0) ↔ ¬ inside l k := by
  unfold Txt.rfind inside
  rcases StrLaws.last_spec (mk l) (mk k) with ⟨h1, h2⟩ | ⟨i, h1, h2, h3⟩
  · rw [h1]
    simp only [true_or, true_iff]
    rintro ⟨i, _, hi⟩
    exact h2 i ((sAt_mk l k i).mpr hi)
  · rw [h1]
    simp only
    constructor
    · rintro (h | h)
      · (first | lia | omega)
      · rintro ⟨j, hj, hj2⟩
        exact h3 j (by (first | lia | omega)) ((sAt_mk l k j).mpr hj2)
    · intro h
      refine .inr ?_
      cases i with
      | zero => rfl
      | succ i => exact absurd ⟨i + 1, by (first | lia | omega), (sAt_mk l k (i + 1)).mp h2⟩ h

/-! slices -/
theorem clamp (x y n : Nat) : strSliceIndices (some (x : Int)) (some (y : Int)) 1 n = strSliceIndices (some ((min x n : Nat) : Int)) (some ((max (min x n) (min y n) : Nat) : Int)) 1 n := by
  have f : ∀ z : Nat, (((z : Nat) : Int) < 0) = False := fun z => eq_false (Int.not_lt.mpr (Int.natCast_nonneg z))
  have g : ∀ z : Nat, max (0 : Int) (min (z : Int) (n : Int)) = ((min z n : Nat) : Int) := fun z => by
    have e : (min (z : Int) (n : Int)) = ((min z n : Nat) : Int) := by
      rcases Nat.le_total z n with h | h
      · rw [Nat.min_eq_left h, Int.min_eq_left (Int.ofNat_le.mpr h)]
      · rw [Nat.min_eq_right h, Int.min_eq_right (Int.ofNat_le.mpr h)]
    rw [e]; exact Int.max_eq_right (Int.natCast_nonneg _)
  simp only [strSliceIndices, sliceRange, f, if_false, g, Nat.min_assoc, Nat.min_self, show ((1 : Int) > 0) = True from by simp, if_true]
  rw [Nat.min_eq_left (Nat.max_le.mpr ⟨Nat.min_le_right x n, Nat.min_le_right y n⟩)]
  by_cases hlt : min x n < min y n
  · rw [Nat.max_eq_right (Nat.le_of_lt hlt)]
  · rw [if_neg (fun q => hlt (Int.ofNat_lt.mp q)), if_neg (fun q => hlt (by rw [Nat.max_eq_left (Nat.le_of_not_lt hlt)] at q; exact absurd q (Int.lt_irrefl _)))]
theorem cut_mk (l : List Nat) (x y : Nat) : (l.drop (min x l.length)).take (max (min x l.length) (min y l.length) - min x l.length) = (l.take y).drop x := by
  rw [List.drop_take]
  rcases Nat.le_total x l.length with hx | hx
  · rw [Nat.min_eq_left hx]
    rcases Nat.le_total y l.length with hy | hy
    · rw [Nat.min_eq_left hy]
      rcases Nat.le_total x y with h | h
      · rw [Nat.max_eq_right h]
      · rw [Nat.max_eq_left h, Nat.sub_self, Nat.sub_eq_zero_of_le h]
    · rw [Nat.min_eq_right hy, Nat.max_eq_right hx, List.take_of_length_le (by rw [List.length_drop]; exact Nat.le_refl _), List.take_of_length_le (by rw [List.length_drop]; exact Nat.sub_le_sub_right hy _)]
  · rw [Nat.min_eq_right hx, List.drop_length, List.drop_of_length_le hx, List.take_nil, List.take_nil]
theorem slice_mk (l : List Nat) {a b : Int} (ha : 0 ≤ a) (hb : 0 ≤ b) : Txt.slice (mk l) (some a) (some b) = mk ((l.take b.toNat).drop a.toNat) := by
  obtain ⟨x, rfl⟩ := Int.eq_ofNat_of_zero_le ha
  obtain ⟨y, rfl⟩ := Int.eq_ofNat_of_zero_le hb
  have e : Txt.slice (mk l) (some (x : Int)) (some (y : Int)) = StrLaws.sliceText (mk l) (some ((min x (mk l).length : Nat) : Int)) (some ((max (min x (mk l).length) (min y (mk l).length) : Nat) : Int)) := by
    unfold Txt.slice StrLaws.sliceText; rw [clamp]
  rw [e, mk_len, StrLaws.sliceText_plain ⟨Int.natCast_nonneg _, Int.ofNat_le.mpr (Nat.le_max_left _ _), Int.ofNat_le.mpr (by exact Nat.max_le.mpr ⟨Nat.min_le_right _ _, Nat.min_le_right _ _⟩)⟩]
  rw [Int.toNat_natCast, Int.toNat_natCast, ← cut_mk]
  apply PySem.Str.ext'
  apply Array.ext'
  simp
theorem slice_mk_to (l : List Nat) {b : Int} (hb : 0 ≤ b) : Txt.slice (mk l) none (some b) = mk (l.take b.toNat) := by
  have e : Txt.slice (mk l) none (some b) = Txt.slice (mk l) (some 0) (some b) := by unfold Txt.slice; rw [StrLaws.sliceIdx_none_lo]
  rw [e, slice_mk l (Int.le_refl 0) hb]; rfl
theorem slice_mk_from (l : List Nat) {a : Int} (ha : 0 ≤ a) : Txt.slice (mk l) (some a) none = mk (l.drop a.toNat) := by
  have e : Txt.slice (mk l) (some a) none = Txt.slice (mk l) (some a) (some ((mk l).length : Int)) := by unfold Txt.slice; rw [StrLaws.sliceIdx_none_hi]
  rw [e, slice_mk l ha (by (first | lia | omega)), mk_len]
  congr 2
  rw [show ((l.length : Nat) : Int).toNat = l.length from by (first | lia | omega), List.take_length]
theorem slice_mk_last (l : List Nat) : Txt.slice (mk l) (some (-1)) none = mk (l.drop (l.length - 1)) := by
  cases l with
  | nil => rfl
  | cons c r =>
    have e : Txt.slice (mk (c :: r)) (some (-1)) none = Txt.slice (mk (c :: r)) (some (-1 + ((mk (c :: r)).length : Int))) none := by
      unfold Txt.slice
      rw [StrLaws.sliceIdx_neg_lo none (mk (c :: r)).length (by decide) (by rw [mk_len]; simp; (first | lia | omega))]
    rw [e, slice_mk_from _ (by rw [mk_len]; simp; (first | lia | omega)), mk_len]
    congr 2
    simp only [List.length_cons]
    (first | lia | omega)

end
section
set_option Elab.async false
set_option maxRecDepth 100000
set_option maxHeartbeats 4000000
set_option linter.unusedSimpArgs false
open PySem PySem.W PySem.Calls PySem.Builtin PySem.Builtin.Str PyProof.Rows
section
variable {prog : Program} {w : World} {A : Around} {E : Value → Shared → Prop} {s : Shared} {Q : Value → Shared → Prop} {l k : List Nat} {t u : Tok} {env : Env}

theorem fit_of {n : Nat} (h : n ≤ 100000) : tooLong n = false := by
  unfold tooLong sizeLine
  exact decide_eq_false (by have e : (2:Nat)^24 = 16777216 := by decide
                            (first | lia | omega))
theorem szl : (100000 : Nat) ≤ sizeLine := by decide
theorem r_const {x : PySem.Str} {kk : Nat} {pos : Pos} (hx : x = mk l) (h : ∀ t' k', Q (.str (mk l) t') { s with toks := k' }) : wpAny (model prog w) A (eval (.Constant (.str x) kk pos) env) Q E s := by
  subst hx; exact fun _ _ _ => h _ _
theorem r_lower (ha : Asc l) (hl : l.length ≤ 100000) (h : ∀ t' k', Q (.str (mk (low l)) t') { s with toks := k' }) : wpAny (model prog w) A (call (.builtin "str.lower") [.str (mk l) t]) Q E s :=
  SC.lower (by rw [lower_mk ha, mk_len]; exact fit_of (by simpa using hl)) (by rw [lower_mk ha]; exact h _ _)
theorem r_upper (ha : Asc l) (hl : l.length ≤ 100000) (h : ∀ t' k', Q (.str (mk (up l)) t') { s with toks := k' }) : wpAny (model prog w) A (call (.builtin "str.upper") [.str (mk l) t]) Q E s :=
  SC.upper (by rw [upper_mk ha, mk_len]; exact fit_of (by simpa using hl)) (by rw [upper_mk ha]; exact h _ _)
theorem r_starts (h : Q (.bool (k.isPrefixOf l)) s) : wpAny (model prog w) A (call (.builtin "str.startswith") [.str (mk l) t, .str (mk k) u]) Q E s :=
  SC.startswith (by rw [starts_mk]; exact h)
theorem r_ends (h : Q (.bool (k.isSuffixOf l)) s) : wpAny (model prog w) A (call (.builtin "str.endswith") [.str (mk l) t, .str (mk k) u]) Q E s :=
  SC.endswith (by rw [ends_mk]; exact h)
theorem r_find {c : Nat} (h : ∀ t' k', Q (.int (idx l c) t') { s with toks := k' }) : wpAny (model prog w) A (call (.builtin "str.find") [.str (mk l) t, .str (mk [c]) u]) Q E s :=
  SC.find (by rw [find_mk]; exact h _ _)
theorem r_rfind (h : ∀ t' k', Q (.int (Txt.rfind (mk l) (mk k)) t') { s with toks := k' }) : wpAny (model prog w) A (call (.builtin "str.rfind") [.str (mk l) t, .str (mk k) u]) Q E s :=
  SC.rfind (h _ _)
theorem r_index {c : Nat} (hc : c ∈ l) (h : ∀ t' k', Q (.int (l.idxOf c : Nat) t') { s with toks := k' }) : wpAny (model prog w) A (call (.builtin "str.index") [.str (mk l) t, .str (mk [c]) u]) Q E s := by
  rcases occ_mk l c 1 (Nat.le_refl _) with ⟨h1, _⟩ | ⟨_, r, h2⟩
  · exact absurd hc h1
  · exact SC.index h2 (h _ _)
theorem r_eq (h : Q (.bool (decide (l = k))) s) : wpAny (model prog w) A (compareOp .Eq (.str (mk l) t) (.str (mk k) u)) Q E s :=
  P.eq_str (by
    have e : ((mk l).cps.toList == (mk k).cps.toList) = decide (l = k) := by
      rw [Bool.eq_iff_iff]; simp
    rw [e]; exact h)
theorem r_ne (h : Q (.bool (!decide (l = k))) s) : wpAny (model prog w) A (compareOp .NotEq (.str (mk l) t) (.str (mk k) u)) Q E s :=
  P.ne_str (by
    have e : ((mk l).cps.toList != (mk k).cps.toList) = !decide (l = k) := by
      rw [Bool.eq_iff_iff]; simp
    rw [e]; exact h)
theorem r_lt (h : Q (.bool (decide (l < k))) s) : wpAny (model prog w) A (compareOp .Lt (.str (mk l) t) (.str (mk k) u)) Q E s :=
  P.lt_str (by simpa using h)
theorem r_inS {c : Nat} (h : Q (.bool (decide (c ∈ l))) s) : wpAny (model prog w) A (compareOp .In (.str (mk [c]) u) (.str (mk l) t)) Q E s :=
  P.in_str (by rw [StrLaws.found_one]; simpa using h)
theorem r_notInS {c : Nat} (h : Q (.bool (!decide (c ∈ l))) s) : wpAny (model prog w) A (compareOp .NotIn (.str (mk [c]) u) (.str (mk l) t)) Q E s :=
  P.notIn_str (by rw [StrLaws.found_one]; simpa using h)
theorem r_add (hl : l.length + k.length ≤ 100000) (h : ∀ t' k', Q (.str (mk (l ++ k)) t') { s with toks := k' }) : wpAny (model prog w) A (binaryOp .Add (.str (mk l) t) (.str (mk k) u)) Q E s :=
  P.add_str (SB.post_add (by rw [mk_len, mk_len]; exact Nat.le_trans hl szl) (by rw [mk_app]; exact h))
theorem r_len (hl : l.length ≤ 100000) (h : ∀ t' k', Q (.int (l.length : Nat) t') { s with toks := k' }) : wpAny (model prog w) A (call (.builtin "len") [.str (mk l) t]) Q E s :=
  P.len_str (by rw [mk_len]; (first | lia | omega)) (by rw [mk_len]; exact h _ _)
/-- an item at a place, from the front or from the back -/
theorem item_mk {i : Int} {j c : Nat} (hj : l[j]? = some c) (hi : i = j ∨ i = (j : Int) - l.length) : (seqIndex? i (mk l).length).bind ((mk l).cps[·]?) = some c := by
  have hlt : j < l.length := (List.getElem?_eq_some_iff.mp hj).1
  rcases hi with rfl | rfl
  · rw [mk_len, StrLaws.seqIndex_nonneg (by (first | lia | omega)) (by (first | lia | omega))]
    simpa using hj
  · rw [mk_len, StrLaws.seqIndex_neg (by (first | lia | omega)) (by (first | lia | omega))]
    have : ((j : Int) - l.length + l.length).toNat = j := by (first | lia | omega)
    rw [this]; simpa using hj
theorem r_item {i : Int} {j c : Nat} {value slice : PySem.Expr} (hl : l.length ≤ 100000) (hj : l[j]? = some c) (hi : i = j ∨ i = (j : Int) - l.length) (h : ∀ t' k', Q (.str (mk [c]) t') { s with toks := k' })
    (hs : autoParam (subscripted slice false (.str (mk l) t) (.int i u) = operate [.str (mk l) t, .int i u] (getItem (.str (mk l) t) (.int i u))) wuAuto)
    (ht : autoParam (∀ r, letTemporaryGo value (.str (mk l) t) r = pure ()) iwuAuto) :
    wpAny (model prog w) A (subscriptTail value slice (.str (mk l) t) (.int i u)) Q E s := by
  have hlt : j < l.length := (List.getElem?_eq_some_iff.mp hj).1
  have hf : (decide (i < -(2 ^ 63 : Int)) || decide (i ≥ 2 ^ 63)) = false := by
    have h1 : ¬ i < -(2 ^ 63 : Int) := by (first | lia | omega)
    have h2 : ¬ i ≥ (2 ^ 63 : Int) := by (first | lia | omega)
    rw [decide_eq_false h1, decide_eq_false h2]; rfl
  exact tail_of_ItemOn ⟨"str", _, F.slot_str_getitem.lookup, typeIs_str _ _ _, P.getItem_str hf (item_mk hj hi) (h _ _)⟩ hs ht

/-! slices: behind the slice object -/
section
variable {h₀ : Heap} {L : Addr} {m : PySem.Str → Option Value} {news : List (Addr × Obj)} {value slice : PySem.Expr}
theorem r_slice_from {i : Int} {ui : Tok} (F : Fr h₀ L s.heap m) (N : News h₀ L s.heap news) (hi : 0 ≤ i) (hl : l.length ≤ 100000) (h : ∀ h' t' k', Fr h₀ L h' m → News h₀ L h' news → Q (.str (mk (l.drop i.toNat)) t') { s with heap := h', toks := k' })
    (hs : autoParam (subscripted slice false (.str (mk l) t) (.ref s.heap.objs.size) = operate [.ref s.heap.objs.size, .str (mk l) t] (getItem (.str (mk l) t) (.ref s.heap.objs.size))) wuAuto)
    (ht : autoParam (∀ r, letTemporaryGo value (.str (mk l) t) r = pure ()) iwuAuto) :
    wpAny (model prog w) A (subscriptTail value slice (.str (mk l) t) (.ref s.heap.objs.size)) Q E { s with heap := s.heap.push { cls := .type "slice", data := .fields #[.int i ui, .none, .none] } } :=
  slice_strN_sn F N (fun h' t' k' a b => by rw [slice_mk_from l hi]; exact h h' t' k' a b) hs ht (by rw [mk_len]; exact Nat.le_trans hl szl)
theorem r_slice_last {ui : Tok} (F : Fr h₀ L s.heap m) (N : News h₀ L s.heap news) (hl : l.length ≤ 100000) (h : ∀ h' t' k', Fr h₀ L h' m → News h₀ L h' news → Q (.str (mk (l.drop (l.length - 1))) t') { s with heap := h', toks := k' })
    (hs : autoParam (subscripted slice false (.str (mk l) t) (.ref s.heap.objs.size) = operate [.ref s.heap.objs.size, .str (mk l) t] (getItem (.str (mk l) t) (.ref s.heap.objs.size))) wuAuto)
    (ht : autoParam (∀ r, letTemporaryGo value (.str (mk l) t) r = pure ()) iwuAuto) :
    wpAny (model prog w) A (subscriptTail value slice (.str (mk l) t) (.ref s.heap.objs.size)) Q E { s with heap := s.heap.push { cls := .type "slice", data := .fields #[.int (-1) ui, .none, .none] } } :=
  slice_strN_sn F N (fun h' t' k' a b => by rw [slice_mk_last l]; exact h h' t' k' a b) hs ht (by rw [mk_len]; exact Nat.le_trans hl szl)
theorem r_slice_to {j : Int} {uj : Tok} (F : Fr h₀ L s.heap m) (N : News h₀ L s.heap news) (hj : 0 ≤ j) (hl : l.length ≤ 100000) (h : ∀ h' t' k', Fr h₀ L h' m → News h₀ L h' news → Q (.str (mk (l.take j.toNat)) t') { s with heap := h', toks := k' })
    (hs : autoParam (subscripted slice false (.str (mk l) t) (.ref s.heap.objs.size) = operate [.ref s.heap.objs.size, .str (mk l) t] (getItem (.str (mk l) t) (.ref s.heap.objs.size))) wuAuto)
    (ht : autoParam (∀ r, letTemporaryGo value (.str (mk l) t) r = pure ()) iwuAuto) :
    wpAny (model prog w) A (subscriptTail value slice (.str (mk l) t) (.ref s.heap.objs.size)) Q E { s with heap := s.heap.push { cls := .type "slice", data := .fields #[.none, .int j uj, .none] } } :=
  slice_strN_ns F N (fun h' t' k' a b => by rw [slice_mk_to l hj]; exact h h' t' k' a b) hs ht (by rw [mk_len]; exact Nat.le_trans hl szl)
theorem r_slice_in {i j : Int} {ui uj : Tok} (F : Fr h₀ L s.heap m) (N : News h₀ L s.heap news) (hi : 0 ≤ i) (hj : 0 ≤ j) (hl : l.length ≤ 100000) (h : ∀ h' t' k', Fr h₀ L h' m → News h₀ L h' news → Q (.str (mk ((l.take j.toNat).drop i.toNat)) t') { s with heap := h', toks := k' })
    (hs : autoParam (subscripted slice false (.str (mk l) t) (.ref s.heap.objs.size) = operate [.ref s.heap.objs.size, .str (mk l) t] (getItem (.str (mk l) t) (.ref s.heap.objs.size))) wuAuto)
    (ht : autoParam (∀ r, letTemporaryGo value (.str (mk l) t) r = pure ()) iwuAuto) :
    wpAny (model prog w) A (subscriptTail value slice (.str (mk l) t) (.ref s.heap.objs.size)) Q E { s with heap := s.heap.push { cls := .type "slice", data := .fields #[.int i ui, .int j uj, .none] } } :=
  slice_strN_ss F N (fun h' t' k' a b => by rw [slice_mk l hi hj]; exact h h' t' k' a b) hs ht (by rw [mk_len]; exact Nat.le_trans hl szl)
end

/-! the pattern's answer as a test -/
theorem lookup_match_bool : typeLookup (.type "re.Match") "__bool__" = pure none := by rw [typeLookup_type, builtinLookup_eq_fast]; kernel_rfl
theorem lookup_match_len : typeLookup (.type "re.Match") "__len__" = pure none := by rw [typeLookup_type, builtinLookup_eq_fast]; kernel_rfl
theorem truthy_match {r : Addr} {Qb : Bool → Shared → Prop} (ho : ∃ o, s.heap.get? r = some o ∧ o.cls = .type "re.Match") (h : Qb true s) : wpAny (model prog w) A (truthy (.ref r)) Qb E s := by
  have hT : s.TypeIs (.ref r) "re.Match" := ho
  unfold truthy callSpecial?
  refine wpAny_bind (wpAny_bind (wpAny_specialOf hT lookup_match_bool (wpAny_pure ?_)))
  refine wpAny_bind (wpAny_specialOf hT lookup_match_len ?_)
  exact wpAny_pure h
theorem r_itemN {i : Int} {c : Nat} {value slice : PySem.Expr} (hl : l.length ≤ 100000) (h0 : 0 ≤ i) (hj : l[i.toNat]? = some c) (h : ∀ t' k', Q (.str (mk [c]) t') { s with toks := k' })
    (hs : autoParam (subscripted slice false (.str (mk l) t) (.int i u) = operate [.str (mk l) t, .int i u] (getItem (.str (mk l) t) (.int i u))) wuAuto)
    (ht : autoParam (∀ r, letTemporaryGo value (.str (mk l) t) r = pure ()) iwuAuto) :
    wpAny (model prog w) A (subscriptTail value slice (.str (mk l) t) (.int i u)) Q E s :=
  r_item hl hj (.inl (by (first | lia | omega))) h hs ht
theorem r_item0 {i : Int} {value slice : PySem.Expr} (hi : i = 0) (hne : l ≠ []) (hl : l.length ≤ 100000) (h : ∀ t' k', Q (.str (mk [l.headD 0]) t') { s with toks := k' })
    (hs : autoParam (subscripted slice false (.str (mk l) t) (.int i u) = operate [.str (mk l) t, .int i u] (getItem (.str (mk l) t) (.int i u))) wuAuto)
    (ht : autoParam (∀ r, letTemporaryGo value (.str (mk l) t) r = pure ()) iwuAuto) :
    wpAny (model prog w) A (subscriptTail value slice (.str (mk l) t) (.int i u)) Q E s :=
  r_item (j := 0) (c := l.headD 0) hl (by cases l with | nil => exact absurd rfl hne | cons a r => rfl) (.inl (by simpa using hi)) h hs ht
theorem r_itemL {i : Int} {value slice : PySem.Expr} (hi : i = -1) (hne : l ≠ []) (hl : l.length ≤ 100000) (h : ∀ t' k', Q (.str (mk [l.getLastD 0]) t') { s with toks := k' })
    (hs : autoParam (subscripted slice false (.str (mk l) t) (.int i u) = operate [.str (mk l) t, .int i u] (getItem (.str (mk l) t) (.int i u))) wuAuto)
    (ht : autoParam (∀ r, letTemporaryGo value (.str (mk l) t) r = pure ()) iwuAuto) :
    wpAny (model prog w) A (subscriptTail value slice (.str (mk l) t) (.int i u)) Q E s :=
  have hp : 0 < l.length := List.length_pos_iff.mpr hne
  r_item (j := l.length - 1) (c := l.getLastD 0) hl (by rw [← List.getLast?_eq_getElem?, List.getLastD_eq_getLast?]; cases h2 : l.getLast? with | none => exact absurd (List.getLast?_eq_none_iff.mp h2) hne | some a => rfl) (.inr (by (first | lia | omega))) h hs ht
theorem r_ite {b : Bool} {P R : Prop} (h1 : b = true → P) (h0 : b = false → R) : if b = true then P else R := by
  cases b with
  | true => exact h1 rfl
  | false => exact h0 rfl
theorem r_tt {P R : Prop} (h : P) : if true = true then P else R := h
theorem r_ff {P R : Prop} (h : R) : if false = true then P else R := h
theorem r_iteT {b : Bool} {P R : Prop} (h : b = true) (k : P) : if b = true then P else R := by rw [h]; exact k
theorem r_iteF {b : Bool} {P R : Prop} (h : b = false) (k : R) : if b = true then P else R := by rw [h]; exact k
theorem endB {b c : Bool} {Q' : Value → Shared → Prop} {s' : Shared} (h : Q' (.bool b) s') (e : b = c) : Q' (.bool c) s' := e ▸ h
theorem endS {a b : List Nat} {t' : Tok} {Q' : Value → Shared → Prop} {s' : Shared} (h : Q' (.str (mk a) t') s') (e : a = b) : Q' (.str (mk b) t') s' := e ▸ h
section
variable {h₀ : Heap} {L : Addr} {m : PySem.Str → Option Value} {news : List (Addr × Obj)} {Qf : Flow → Shared → Prop}
theorem my_while {test : PySem.Expr} {body : List Stmt} {pos : Pos} (J : Nat → (PySem.Str → Option Value) → List (Addr × Obj) → Prop) {n₀ : Nat}
    (F : Fr h₀ L s.heap m) (N : News h₀ L s.heap news) (hJ : J n₀ m news)
    (turn : ∀ n m₁ news₁ h₁ tk₁, Fr h₀ L h₁ m₁ → News h₀ L h₁ news₁ → J n m₁ news₁ →
      wpAny (model prog w) A (isTrue test env (eval test env)) (fun b s₂ =>
        if b = true then wpAny (model prog w) A (execs body env) (WhileStep2 h₀ L s J Qf n) (fun _ _ => False) s₂ else Qf .next s₂) (fun _ _ => False) { s with heap := h₁, toks := tk₁ }) :
    wpAny (model prog w) A (exec (.While test body [] pos) env) Qf (fun _ _ => False) s :=
  While_inv2 J F N hJ turn PassesOwn.never
theorem endJ {J : Nat → (PySem.Str → Option Value) → List (Addr × Obj) → Prop} {n n' : Nat} {h' : Heap} {tk : Nat} (F : Fr h₀ L h' m) (N : News h₀ L h' news) (hn : n' < n) (hJ : J n' m news) : WhileStep2 h₀ L s J Qf n .next { s with heap := h', toks := tk } :=
  ⟨h', tk, m, news, n', rfl, F, N, hn, hJ⟩
theorem szLe {n : Nat} (h : n ≤ 100000) : n ≤ sizeLine := Nat.le_trans h szl
theorem newsSub {news' : List (Addr × Obj)} {h : Heap} (N : News h₀ L h news) (hs : ∀ p ∈ news', p ∈ news) : News h₀ L h news' := fun p hp => N p (hs p hp)
end
end

end
section
set_option Elab.async false
set_option maxRecDepth 100000
set_option maxHeartbeats 4000000
open PySem PySem.W PySem.Calls PySem.Builtin PyProof.Rows
section
variable {prog : Program} {w : World} {A : Around} {E : Value → Shared → Prop} {s : Shared} {Q : Value → Shared → Prop} {l : List Nat} {t : Tok} {h₀ : Heap} {L : Addr} {m : PySem.Str → Option Value} {news : List (Addr × Obj)} {value slice : PySem.Expr}
theorem r_slice_inE {i j : Int} {ui uj : Tok} {r : List Nat} (F : Fr h₀ L s.heap m) (N : News h₀ L s.heap news) (hi : 0 ≤ i) (hj : 0 ≤ j) (hl : l.length ≤ 100000) (hr : (l.take j.toNat).drop i.toNat = r)
    (h : ∀ h' t' k', Fr h₀ L h' m → News h₀ L h' news → Q (.str (mk r) t') { s with heap := h', toks := k' })
    (hs : autoParam (subscripted slice false (.str (mk l) t) (.ref s.heap.objs.size) = operate [.ref s.heap.objs.size, .str (mk l) t] (getItem (.str (mk l) t) (.ref s.heap.objs.size))) wuAuto)
    (ht : autoParam (∀ r, letTemporaryGo value (.str (mk l) t) r = pure ()) iwuAuto) :
    wpAny (model prog w) A (subscriptTail value slice (.str (mk l) t) (.ref s.heap.objs.size)) Q E { s with heap := s.heap.push { cls := .type "slice", data := .fields #[.int i ui, .int j uj, .none] } } := by
  subst hr
  exact r_slice_in F N hi hj hl h hs ht
end

end
section
set_option Elab.async false
set_option maxRecDepth 100000
set_option maxHeartbeats 4000000
set_option linter.unusedSimpArgs false
set_option linter.unusedVariables false
open PySem PySem.W PySem.Calls PySem.Builtin PySem.Builtin.Str PyProof.Rows
namespace Esc
section
variable {prog : Program} {w : World} {A : Around} {E : Value → Shared → Prop} {s : Shared} {Q : Value → Shared → Prop} {h : Heap}
noncomputable def KeysLitI : List DictEntry → Prop
  | [] => True
  | e :: r => (∃ i t, e.key = .int i t ∧ e.hash = hashInt i) ∧ KeysLitI r
theorem KeysLitI.all {l : List DictEntry} (h : KeysLitI l) : ∀ e ∈ l, ∃ i t, e.key = .int i t ∧ e.hash = hashInt i := by
  induction l with
  | nil => intro e he; exact absurd he List.not_mem_nil
  | cons a r ih =>
    intro e he
    rcases List.mem_cons.mp he with rfl | he
    · exact h.1
    · exact ih h.2 e he
theorem mapOf_KI {K : Frag} {a : Addr} {es : Array DictEntry} {n : Nat} (X : K.In h) (hl : K.lookup a = some ⟨.type "dict", none, .dict es n, #[]⟩) (hk : KeysLitI es.toList) :
    h.MapOf (intKind prog w) a (fun k => findBy Value.isInt es k) :=
  ⟨_, es, n, X _ _ hl, ⟨rfl, rfl, rfl⟩, rfl, fun e he => by
    obtain ⟨x, t, e1, e2⟩ := hk.all e (Array.mem_toList_iff.mpr he)
    exact ⟨x, by rw [e1]; simp [intKind, Value.isInt], e2⟩, fun _ => rfl⟩
theorem map85 (X : (Mine.hd.heap_1 w.params).In s.heap) : ∃ f, s.heap.MapOf (intKind prog w) 85 f ∧ (∃ t, f 46 = some (.str (Str.ofString "\\.") t)) ∧ ∀ c ∈ [55, 97, 98, 99, 108, 111], f c = none := by
  refine ⟨_, mapOf_KI X rfl ?_, ?_, ?_⟩
  · exact ⟨⟨_, _, rfl, rfl⟩, ⟨_, _, rfl, rfl⟩, ⟨_, _, rfl, rfl⟩, ⟨_, _, rfl, rfl⟩, ⟨_, _, rfl, rfl⟩, ⟨_, _, rfl, rfl⟩, ⟨_, _, rfl, rfl⟩, ⟨_, _, rfl, rfl⟩, ⟨_, _, rfl, rfl⟩, ⟨_, _, rfl, rfl⟩, ⟨_, _, rfl, rfl⟩, ⟨_, _, rfl, rfl⟩, ⟨_, _, rfl, rfl⟩, ⟨_, _, rfl, rfl⟩, ⟨_, _, rfl, rfl⟩, ⟨_, _, rfl, rfl⟩, ⟨_, _, rfl, rfl⟩, ⟨_, _, rfl, rfl⟩, ⟨_, _, rfl, rfl⟩, ⟨_, _, rfl, rfl⟩, ⟨_, _, rfl, rfl⟩, ⟨_, _, rfl, rfl⟩, ⟨_, _, rfl, rfl⟩, ⟨_, _, rfl, rfl⟩, trivial⟩
  · exact ⟨_, rfl⟩
  · intro c hc
    simp only [List.mem_cons, List.not_mem_nil, or_false] at hc
    rcases hc with rfl | rfl | rfl | rfl | rfl | rfl <;> rfl
theorem key_is_lookup : isSubtype (.type "KeyError") (.type "LookupError") = pure true := by rw [isSubtype_type]; kernel_rfl
theorem tl_hit {f : Int → Option Value} {c : Nat} {x : PySem.Str} {t : Tok} {Qm : Mapped → Shared → Prop} (M : s.heap.MapOf (intKind prog w) 85 f) (hv : f c = some (.str x t)) (h : ∀ k', Qm (.text x) { s with toks := k' }) :
    wpAny (model prog w) A (tableLookup (.ref 85) c) Qm E s := by
  unfold tableLookup
  refine wpAny_bind (wpAny_attempt (wpAny_bind (wpAny_mkInt (wpAny_getItem_of (knd := intKind prog w) (k := (c : Int)) (by simp [intKind, Value.isInt]) M hv ?_))))
  dsimp only
  exact wpAny_bind (wpAny_pure (wpAny_bind (wpAny_pure (wpAny_pure (h _)))))
theorem tl_miss {f : Int → Option Value} {c : Nat} {Qm : Mapped → Shared → Prop} (hh : A.handled = none) (M : s.heap.MapOf (intKind prog w) 85 f) (hv : f c = none) (h : ∀ h' k', Ext s.heap h' → Qm .keep { s with heap := h', toks := k' }) :
    wpAny (model prog w) A (tableLookup (.ref 85) c) Qm E s := by
  unfold tableLookup
  refine wpAny_bind (wpAny_attempt (wpAny_bind (wpAny_mkInt (wpAny_getItem_missing_of (knd := intKind prog w) (k := (c : Int)) (by simp [intKind, Value.isInt]) (by decide) hh M hv fun h' e ne => ?_))))
  dsimp only
  obtain ⟨ob, t, h1, h2, h3⟩ := ne.there
  refine wpAny_bind (wpAny_isInstance (T := "KeyError") ⟨ob, h1, h2⟩ key_is_lookup ?_)
  exact wpAny_bind (wpAny_rule (wpAny_pure (h _ _ ne.keeps)))
theorem tr_miss {f : Int → Option Value} {c : Nat} {t : Tok} (hc : c < 128) (hh : A.handled = none) (M : ∀ h' : Heap, Ext s.heap h' → h'.MapOf (intKind prog w) 85 f) (hv : f c = none)
    (h : ∀ h' t' k', Ext s.heap h' → Q (.str (mk [c]) t') { s with heap := h', toks := k' }) :
    wpAny (model prog w) A (call (.builtin "str.translate") [.str (mk [c]) t, .ref 85]) Q E s := by
  refine wpAny_call_entry F.slot_str_translate (typeIs_str _ _ _) F.entry_str_translate ?_ (F.args_str_translate_2 _ _)
  unfold Builtin.«str.translate»
  refine wpAny_bind (wpAny_of_eq (a := (Value.str (mk [c]) t, mk [c], Value.ref 85)) rfl ?_)
  simp only [mk_len, List.length_cons, List.length_nil]
  simp only [Nat.zero_add, Nat.reduceBEq, Bool.false_eq_true, if_false]
  simp [hc, tooLong]
  refine wpAny_bind (tl_miss (A := A.in1) hh (M _ Ext.rfl) hv fun h' k' x' => ?_)
  simp
  refine wpAny_bind (wpAny_mkStr ?_ (by show 1 ≤ sizeLine; decide))
  exact wpAny_pure ⟨_, rfl, h _ _ _ x'⟩
theorem tr_hit {f : Int → Option Value} {c : Nat} {t t2 : Tok} (hc : c < 128) (hh : A.handled = none) (M : ∀ h' : Heap, Ext s.heap h' → h'.MapOf (intKind prog w) 85 f) (hv : f c = some (.str (mk [92, c]) t2))
    (h : ∀ h' t' k', Ext s.heap h' → Q (.str (mk [92, c]) t') { s with heap := h', toks := k' }) :
    wpAny (model prog w) A (call (.builtin "str.translate") [.str (mk [c]) t, .ref 85]) Q E s := by
  refine wpAny_call_entry F.slot_str_translate (typeIs_str _ _ _) F.entry_str_translate ?_ (F.args_str_translate_2 _ _)
  unfold Builtin.«str.translate»
  refine wpAny_bind (wpAny_of_eq (a := (Value.str (mk [c]) t, mk [c], Value.ref 85)) rfl ?_)
  simp only [mk_len, List.length_cons, List.length_nil]
  simp only [Nat.zero_add, Nat.reduceBEq, Bool.false_eq_true, if_false]
  simp [hc, tooLong]
  refine wpAny_bind (tl_hit (A := A.in1) (M _ Ext.rfl) hv fun k' => ?_)
  simp [PySem.Str.length]
  refine wpAny_bind (wpAny_rule ?_)
  refine wpAny_bind (tl_hit (A := A.in1) (M _ Ext.rfl) hv fun k' => ?_)
  simp [PySem.Str.length]
  refine wpAny_bind (wpAny_mkStr ?_ (by show 2 ≤ sizeLine; decide))
  exact wpAny_pure ⟨_, rfl, h _ _ _ Ext.rfl⟩
theorem lit_esc_dot : Str.ofString "\\." = mk [92, 46] := by decide +kernel
/-- the signs that stand plainly in a pattern -/
noncomputable def okc : List Nat := [46, 55, 97, 98, 99, 108, 111]
noncomputable def esc (c : Nat) : List Nat := if c = 46 then [92, 46] else [c]
theorem r_translate {c : Nat} {t : Tok} (hc : c ∈ okc) (hh : A.handled = none) (X : (Mine.hd.heap_1 w.params).In s.heap)
    (h : ∀ h' t' k', Ext s.heap h' → Q (.str (mk (esc c)) t') { s with heap := h', toks := k' }) :
    wpAny (model prog w) A (call (.builtin "str.translate") [.str (mk [c]) t, .ref 85]) Q E s := by
  obtain ⟨f, M, ⟨t2, h1⟩, h2⟩ := map85 (prog := prog) X
  have M' : ∀ h' : Heap, Ext s.heap h' → h'.MapOf (intKind prog w) 85 f := fun h' x => let ⟨o, es, ep, a, b, c, d, e⟩ := M; ⟨o, es, ep, x _ _ a, b, c, d, e⟩
  by_cases hd : c = 46
  · subst hd
    exact tr_hit (by (first | lia | omega)) hh M' (by rw [lit_esc_dot] at h1; exact h1) h
  · have he : esc c = [c] := if_neg hd
    rw [he] at h
    have hm : c ∈ [55, 97, 98, 99, 108, 111] := by
      simp only [okc, List.mem_cons, List.not_mem_nil, or_false] at hc ⊢
      (first | lia | omega)
    have hm2 : ((c : Nat) : Int) ∈ ([55, 97, 98, 99, 108, 111] : List Int) := by
      simp only [List.mem_cons, List.not_mem_nil, or_false] at hm ⊢
      (first | lia | omega)
    exact tr_miss (by simp only [List.mem_cons, List.not_mem_nil, or_false] at hm; (first | lia | omega)) hh M' (h2 _ hm2) h
theorem gm_translate {x : PySem.Str} {t : Tok} {pl : Sem Bool} {Qm : Value × List Value → Shared → Prop} (h : Qm (.builtin "str.translate", [.str x t]) s) : wpAny (model prog w) A (getMethod (.str x t) "translate" pl) Qm E s :=
  _root_.PySem.getMethod_builtin (typeIs_str _ _ _) F.plainAttrs_str F.slot_str_translate F.type_str_translate (fun a e => by cases e) h
end
end Esc

end
section
set_option Elab.async false
set_option maxRecDepth 100000
set_option maxHeartbeats 4000000
set_option linter.unusedSimpArgs false
set_option linter.unusedVariables false
open PySem PySem.W PySem.Calls PySem.Builtin PyProof.Rows
namespace Bm
section
variable {prog : Program} {w : World} {A : Around} {E : Value → Shared → Prop} {s : Shared} {Q : Value → Shared → Prop} {h : Heap}
/-- the bound append of a list -/
noncomputable def bm (D : Addr) : Obj := { cls := .type "builtin_function_or_method", data := .fields #[.builtin "list.append", .ref D] }
theorem sub_list_module : isSubtype (.type "list") (.type "module") = pure false := by rw [isSubtype_type]; kernel_rfl
theorem sub_list_type : isSubtype (.type "list") (.type "type") = pure false := by rw [isSubtype_type]; kernel_rfl
theorem sig_append : Manifest.signature? "list.append" = some ⟨.oneArg, "list.append", "append", .self, [⟨"object", .posOnly, true⟩]⟩ := by kernel_rfl
theorem kind_append : builtinKind "list.append" = some .method := by kernel_rfl
theorem quiet_append (args : Args) : (Code.builtin "list.append" args).quiet = true := plainId_quiet (by decide +kernel) args
theorem is_type_list {D : Addr} {its : Array Value} {n : Nat} {Qb : Bool → Shared → Prop} (hl : s.heap.get? D = some (W.listOf its n)) (h : Qb false s) : wpAny (model prog w) A (isType (.ref D)) Qb E s := by
  unfold isType
  exact wpAny_bind (wpAny_loadPart hl (wpAny_pure h))
theorem check_bound {D : Addr} {its : Array Value} {n : Nat} {x : Value} {Qu : Unit → Shared → Prop} (hl : s.heap.get? D = some (W.listOf its n)) (h : Qu () s) : wpAny (model prog w) A (checkBoundCall "list.append" ⟨[.ref D, x], []⟩) Qu E s := by
  have hT : s.TypeIs (.ref D) "list" := ⟨_, hl, rfl⟩
  unfold checkBoundCall
  rw [sig_append]
  dsimp only
  rw [kind_append]
  dsimp only
  rw [if_neg (by decide)]
  refine wpAny_bind (wpAny_isInstance hT sub_list_module ?_)
  rw [if_neg (by decide +kernel)]
  refine wpAny_bind (is_type_list hl ?_)
  rw [if_neg (by decide)]
  refine wpAny_bind (wpAny_typeOf hT ?_)
  have e : Bind.checkArgs "list.append" ⟨.oneArg, "list.append", "append", .self, [⟨"object", .posOnly, true⟩]⟩ ⟨[.ref D, x], []⟩ = pure () := by
    have := args_list_append (.ref D) x
    unfold argsOk at this
    rw [sig_append] at this
    exact this
  exact wpAny_of_eq e h
theorem slot_mget : Slot "method_descriptor" "__get__" "method_descriptor.__get__" :=
  .of (owner := "method_descriptor") (n := "__get__") (by rw [typeLookup_type, builtinLookup_eq_fast]; kernel_rfl) (by decide +kernel) (by decide +kernel) (by decide +kernel)
    (by first | exact .inl (by decide +kernel) | exact .inr (by decide +kernel)) (by rw [isSubtype_type]; kernel_rfl)
theorem entry_mget : entryFor table "method_descriptor.__get__" = some Builtin.«method_descriptor.__get__» := entryFor_of_tree (by kernel_rfl)
theorem args_mget (a b c : Value) : argsOk "method_descriptor.__get__" ⟨[a, b, c], []⟩ := by unfold argsOk; kernel_rfl
theorem sub_list_list : isSubtype (.type "list") (.type "list") = pure true := by rw [isSubtype_type]; kernel_rfl
theorem run_mget {D : Addr} {its : Array Value} {n : Nat} {P : Fin → Shared → Prop} (hl : s.heap.get? D = some (W.listOf its n)) (h : P (.done (.ret (.ref s.heap.objs.size))) { s with heap := s.heap.push (bm D) }) :
    wpAny (model prog w) A (Builtin.«method_descriptor.__get__» ⟨[.builtin "list.append", .ref D, .type "list"], []⟩) P E s := by
  have hT : s.TypeIs (.ref D) "list" := ⟨_, hl, rfl⟩
  unfold Builtin.«method_descriptor.__get__»
  refine wpAny_bind (wpAny_of_eq (a := (.builtin "list.append", some (.ref D), some (.type "list"))) (by first | rfl | kernel_rfl) ?_)
  dsimp only
  rw [if_neg (by decide +kernel)]
  repeat (any_goals (first | assumption | wp_step))
  rw [show (".".intercalate ("list.append".cutAt '.').dropLast) = "list" from by decide +kernel]
  refine wpAny_of_eq sub_list_list ?_
  rw [if_neg (by decide)]
  refine wpAny_pure ?_
  exact wpAny_bind (wpAny_newObj_type (wpAny_pure h))
theorem call_bound {b D : Addr} {its : Array Value} {n : Nat} {x : Value} (hb : s.heap.get? b = some (bm D)) (hl : s.heap.get? D = some (W.listOf its n)) (hsz : its.size ≤ sizeLine)
    (hQ : ∀ h', h'.get? D = some (W.listOf (its.push x) (n + 1)) → Heap.SameBut D s.heap h' → Q .none { s with heap := h' }) :
    wpAny (model prog w) A (call (.ref b) [x]) Q E s := by
  refine wpAny_call (codeAny_of_tree ?_)
  show wpAny _ _ (callAny (.ref b) ⟨[x], []⟩) _ _ s
  unfold callAny
  refine wpAny_bind (wpAny_load hb ?_)
  dsimp only [bm]
  simp only [show ((Value.type "builtin_function_or_method" == Value.type "method") || (Value.type "builtin_function_or_method" == Value.type "builtin_function_or_method") || (Value.type "builtin_function_or_method" == Value.type "method-wrapper")) = true from by decide, if_true]
  show wpAny _ _ (do checkBoundCall "list.append" ⟨[.ref D, x], []⟩; again (.builtin "list.append" ⟨[.ref D, x], []⟩)) _ _ s
  have hT : s.TypeIs (.ref D) "list" := ⟨_, hl, rfl⟩
  refine wpAny_bind (check_bound hl ?_)
  refine wpAny_pure ⟨quiet_append _, ?_⟩
  refine codeAny_builtin entry_list_append ?_
  show wpAny _ _ (updateSeq D (·.push x) >>= fun _ => ret .none) _ _ s
  refine wpAny_bind ?_
  refine wpAny_updateSeq hl rfl (wpAny_pure (hQ _ ?_ (Heap.SameBut.update ..)))
  have := Heap.get?_update_self (Obj.mapSeq (·.push x)) hl rfl
  rw [this, Obj.mapSeq_push_plain]
theorem get_append {D : Addr} {its : Array Value} {n : Nat} (hl : s.heap.get? D = some (W.listOf its n))
    (hQ : ∀ h' k', h' = s.heap.push (bm D) → Q (.ref s.heap.objs.size) { s with heap := h', toks := k' }) :
    wpAny (model prog w) A (getAttr (.ref D) "append" true) Q E s := by
  have hT : ∀ tk', ({ s with toks := tk' } : Shared).TypeIs (.ref D) "list" := fun _ => ⟨_, hl, rfl⟩
  have g3 : typeLookup (.type "method_descriptor") "__get__" = pure (some (.builtin "method_descriptor.__get__")) := slot_mget.lookup
  have g4 : typeLookup (.type "method_descriptor") "__set__" = pure none := by rw [typeLookup_type, builtinLookup_eq_fast]; kernel_rfl
  have g5 : typeLookup (.type "method_descriptor") "__delete__" = pure none := by rw [typeLookup_type, builtinLookup_eq_fast]; kernel_rfl
  unfold getAttr getAttrBy
  refine wpAny_bind (wpAny_mkText (wpAny_holding (wpAny_bind (wpAny_typeOf (hT _) ?_))))
  refine wpAny_bind (wpAny_of_eq F.slot_list_getattribute.lookup ?_)
  dsimp only
  rw [if_neg (by decide)]
  unfold getAttrByItsOwn hookBefore onTheHeap
  simp only [Bool.false_eq_true, if_false]
  refine wpAny_bind (wpAny_pure ?_)
  refine wpAny_bind (wpAny_attempt (wpAny_holding ?_))
  unfold callGetattribute onTheHeap boundAndCalled
  simp only [Bool.and_false, Bool.false_eq_true, if_false]
  refine wpAny_bind (wpAny_of_eq (F.slot_list_getattribute.bind (.ref D)) ?_)
  refine wpAny_call_entry F.slot_list_getattribute (hT _) am_entry_list_getattribute ?_ (F.args_list_getattribute_2 _ _)
  unfold Builtin.«object.__getattribute__»
  repeat (any_goals (first | assumption | exact hT _ | wp_step))
  refine wpAny_of_eq slot_list_append.lookup ?_
  refine wpAny_bind ?_
  unfold ObjectAttr.getOf specialOf
  refine wpAny_bind (wpAny_of_eq type_list_append (wpAny_of_eq g3 ?_))
  refine wpAny_bind ?_
  unfold ObjectAttr.dataDescriptor? ObjectAttr.takesStores specialOf
  refine wpAny_bind (wpAny_bind (wpAny_bind (wpAny_of_eq type_list_append (wpAny_of_eq g4 ?_))))
  refine wpAny_bind (wpAny_bind (wpAny_of_eq type_list_append (wpAny_of_eq g5 ?_)))
  refine wpAny_pure ?_
  rw [if_neg (by decide)]
  refine wpAny_pure ?_
  dsimp only
  unfold ObjectAttr.ownThenClass ObjectAttr.inOwnDict ObjectAttr.ownDict
  refine wpAny_bind (wpAny_bind (wpAny_bind (wpAny_loadPart hl ?_)))
  dsimp only [W.listOf]
  unfold instanceDict
  refine wpAny_bind (wpAny_loadPart hl ?_)
  dsimp only [W.listOf]
  rw [if_pos (by decide)]
  refine wpAny_pure ?_
  refine wpAny_pure ?_
  dsimp only
  unfold ObjectAttr.copiedAttributeGuard ObjectAttr.byTheClass
  rw [if_neg (by decide)]
  refine wpAny_bind (wpAny_pure (wpAny_bind (wpAny_rule (wpAny_pure ?_))))
  dsimp only
  unfold ObjectAttr.bindTo
  dsimp only
  refine wpAny_bind ?_
  refine wpAny_holding (wpAny_call_entry slot_mget type_list_append entry_mget (run_mget (its := its) (n := n) hl ⟨_, rfl, ?_⟩) (args_mget _ _ _))
  refine wpAny_pure ⟨_, rfl, ?_⟩
  refine wpAny_pure ?_
  exact hQ _ _ rfl

section
variable {M : Model} {env : Env} {h₀ : Heap} {L : Addr} {m : PySem.Str → Option Value} {news news' : List (Addr × Obj)}
noncomputable def BmAt (b D : Addr) (h : Heap) : Prop := h.get? b = some (bm D)
theorem bmAnd {b D : Addr} {h : Heap} {R : Prop} (N : News h₀ L h news) (hm : (b, bm D) ∈ news) (hr : R) : BmAt b D h ∧ R := ⟨N.get hm, hr⟩
theorem cw_fields {pos : Pos} {b D : Addr} {args : List (Bool × Sem Value)} (hplain : args.any (·.1) = false)
    (h : wpAny M A (evalArgs (.ref b) true args []) (fun x s₁ => BmAt b D s₁.heap ∧ wpAny M A (call (.ref b) ([] ++ x.pos) x.kw) Q E s₁) E s) : wpAny M A (callWith pos (.ref b) [] args []) Q E s := by
  unfold callWith
  refine wpAny_bind (wpAny_holding (wpAny_mono h (fun x s₁ h₁ => wpAny_bind (wpAny_standAt ?_)) fun _ _ x => x))
  obtain ⟨ho, hcall⟩ := h₁
  simp only [hplain, List.any_nil, Bool.or_false]
  refine wpAny_bind (m := keeperOf (.ref b)) ?_
  unfold keeperOf
  refine wpAny_bind (wpAny_load ho ?_)
  simp only [bm, show (Value.type "builtin_function_or_method" != Value.type "method") = true by decide, show (Value.type "builtin_function_or_method" == Value.type "builtin_function_or_method" || Value.type "builtin_function_or_method" == Value.type "method-wrapper") = true by decide, if_true]
  refine wpAny_pure ?_
  exact wpAny_bind (wpAny_mono hcall (fun r s₂ hr => wpAny_bind (wpAny_holding (wpAny_point (wpAny_pure hr)))) fun _ _ x => x)
theorem cw_bm {pos : Pos} {b D : Addr} {e : PySem.Expr} {rest : List PySem.Expr} (_N : News h₀ L s.heap news) (_hm : (b, bm D) ∈ news)
    (h : wpAny M A (spliced (backTo pos (starEach (e :: rest) env))) (fun vs s₁ => BmAt b D s₁.heap ∧ wpAny M A (call (.ref b) ([] ++ vs)) Q E s₁) E s)
    (he : autoParam (starEach (e :: rest) env = (false, eval e env) :: starEach rest env) rflAuto) (hplain : autoParam ((backTo pos (starEach rest env)).any (·.1) = false) rflAuto) :
    wpAny M A (callWith pos (.ref b) [] (backTo pos (starEach (e :: rest) env)) []) Q E s := by
  rw [he] at h ⊢
  refine cw_fields (D := D) (by show (false || (backTo pos (starEach rest env)).any (·.1)) = false; rw [hplain]; rfl) ?_
  exact evalArgs_plain h
theorem r_bound {b D : Addr} {its : Array Value} {n : Nat} {x : Value} (F : Fr h₀ L s.heap m) (N : News h₀ L s.heap news) (hb : (b, bm D) ∈ news) (U : Upd D (W.listOf its n) (W.listOf (its.push x) (n + 1)) news news') (hsz : its.size ≤ sizeLine)
    (h : ∀ h', Fr h₀ L h' m → News h₀ L h' news' → Q .none { s with heap := h' }) : wpAny (model prog w) A (call (.ref b) [x]) Q E s := by
  obtain ⟨pre, post, e1, e2, a, c⟩ := U.split
  subst e1 e2
  have z := N (D, W.listOf its n) (List.mem_append.mpr (.inr (.head _)))
  exact call_bound (N.get hb) z.1 hsz fun h' ho' hs => h h' (F.change hs z.2.1 z.2.2) (news_set N a c hs ho')
theorem r_get_append {D : Addr} {its : Array Value} {n : Nat} (F : Fr h₀ L s.heap m) (N : News h₀ L s.heap news) (hm : (D, W.listOf its n) ∈ news)
    (h : ∀ r h' k', Fr h₀ L h' m → News h₀ L h' ((r, bm D) :: news) → (∀ p ∈ news, p.1 < r) → Q (.ref r) { s with heap := h', toks := k' }) :
    wpAny (model prog w) A (getAttr (.ref D) "append" true) Q E s :=
  get_append (N.get hm) fun h' k' e => by subst e; exact h _ _ k' (F.push _) (News.push F N _) fun p hp => Heap.lt_size (N p hp).1
end
end
end Bm

end
section
set_option Elab.async false
set_option maxRecDepth 100000
set_option maxHeartbeats 4000000
open PySem PySem.W PySem.Calls PySem.Builtin PyProof.Rows
namespace Ob
theorem mro : mroOf (.type "object") = pure [.type "object"] := by kernel_rfl
theorem lookup_new : typeLookup (.type "object") "__new__" = pure (some (.builtin "object.__new__")) := by rw [typeLookup_type, builtinLookup_eq_fast]; kernel_rfl
theorem made : Bind.madeBy (.type "object") = pure (some "object.__new__") := madeBy_type mro lookup_new (by decide +kernel)
theorem slot_init : Slot "object" "__init__" "object.__init__" :=
  .of (owner := "object") (n := "__init__") (by rw [typeLookup_type, builtinLookup_eq_fast]; kernel_rfl) (by decide +kernel) (by decide +kernel) (by decide +kernel)
    (by first | exact .inl (by decide +kernel) | exact .inr (by decide +kernel)) (by rw [isSubtype_type]; kernel_rfl)
theorem called : TypeCalled "object" "object.__new__" "object.__init__" :=
  ⟨by decide +kernel, by decide +kernel, ⟨_, _, mro⟩, made, by decide +kernel, by rw [isSubtype_type]; kernel_rfl, slot_init⟩
theorem typeCall : checkTypeCall "object" ⟨[], []⟩ = pure () := by kernel_rfl
theorem newCall : checkBuiltinCall "object.__new__" ⟨[.type "object"], []⟩ = pure () := by kernel_rfl
theorem entry : entryFor table "object.__new__" = some Builtin.«object.__new__» := F.objNew.entry
theorem args_init (v : Value) : argsOk "object.__init__" ⟨[v], []⟩ := by unfold argsOk; kernel_rfl
section
variable {prog : Program} {w : World} {A : Around} {E : Value → Shared → Prop} {s : Shared} {Q : Value → Shared → Prop}
theorem new_tree : Builtin.«object.__new__» ⟨[.type "object"], []⟩ = (do let v ← newObj (.type "object") .plain none; ret v) := by kernel_rfl
theorem r_object (h : Q (.ref s.heap.objs.size) { s with heap := s.heap.push { cls := .type "object", data := .plain } }) : wpAny (model prog w) A (call (.type "object") []) Q E s := by
  refine callType_codes (Q₁ := fun v s' => v = .ref s.heap.objs.size ∧ s' = { s with heap := s.heap.push { cls := .type "object", data := .plain } }) called typeCall F.entry_object_init ?_ ?_
  · refine codeAny_call_builtin called.plain entry (wpAny_of_eq newCall ?_)
    rw [new_tree]
    exact wpAny_bind (wpAny_newObj_type (wpAny_pure ⟨rfl, rfl⟩))
  · rintro _ _ ⟨rfl, rfl⟩
    refine ⟨⟨_, Heap.get?_push_size _ rfl, rfl⟩, args_init _, ?_⟩
    exact wpAny_pure ⟨rfl, h⟩
variable {h₀ : Heap} {L : Addr} {m : PySem.Str → Option Value} {news : List (Addr × Obj)}
theorem r_objectN (F : Fr h₀ L s.heap m) (N : News h₀ L s.heap news)
    (h : ∀ S h', (∀ q ∈ news, q.1 < S) → Fr h₀ L h' m → News h₀ L h' ((S, { cls := .type "object", data := .plain }) :: news) → Q (.ref S) { s with heap := h' }) : wpAny (model prog w) A (call (.type "object") []) Q E s :=
  r_object (h _ _ (fun q hq => Heap.lt_size (N q hq).1) (F.push _) (N.push F _))
end
end Ob

end
section
set_option Elab.async false
set_option maxRecDepth 100000
set_option maxHeartbeats 4000000
set_option linter.unusedSimpArgs false
set_option linter.unusedVariables false
open PySem PySem.W PySem.Calls PySem.Builtin PyProof.Rows
namespace Li
section
variable {prog : Program} {w : World} {A : Around} {E : Value → Shared → Prop} {s : Shared} {Q : Value → Shared → Prop} {Qb : Bool → Shared → Prop} {D : Addr} {its : Array Value} {n : Nat}
  {h₀ h : Heap} {L : Addr} {m : PySem.Str → Option Value} {news : List (Addr × Obj)}
theorem back_snoc {vs : List Value} {v : Value} : (vs ++ [v]).toArray.back? = some v := by simp
theorem led (N : News h₀ L h news) (hm : (D, W.listOf its n) ∈ news) : h.IsList D its := ⟨_, N.get hm, rfl, n, rfl⟩
theorem r_truthy (hl : s.heap.IsList D its) (hz : its.size ≤ 100000) (h : ∀ k', Qb (!its.isEmpty) { s with toks := k' }) : wpAny (model prog w) A (truthy (.ref D)) Qb E s :=
  wpAny_truthy_list hl (by (first | lia | omega)) (h _)
theorem r_at {value slice : PySem.Expr} {i : Int} {j : Nat} {u : Tok} {v : Value} (hl : s.heap.IsList D its) (hz : its.size ≤ 100000) (hj : its[j]? = some v) (hi : i = j) (h : Q v s)
    (hs : autoParam (subscripted slice false (.ref D) (.int i u) = operate [.ref D, .int i u] (getItem (.ref D) (.int i u))) wuAuto) :
    wpAny (model prog w) A (subscriptTail value slice (.ref D) (.int i u)) Q E s := by
  have hlt : j < its.size := (Array.getElem?_eq_some_iff.mp hj).1
  refine tail_any hl.typeIs slot_list_getitem.lookup (wpAny_getItem_list hl (by (first | lia | omega)) (by (first | lia | omega)) ?_ h) hs
  subst hi; simpa using hj
theorem isAt {g h : Heap} {L a : Addr} {m : PySem.Str → Option Value} {xs : Array Value} (x : g.IsList a xs) (F : Fr g L h m) : h.IsList a xs := x.at fun o e => F.keep _ o e
theorem r_at0 {value slice : PySem.Expr} {i : Int} {u : Tok} {v : Value} (hl : s.heap.IsList D its) (hz : its.size ≤ 100000) (hj : its[0]? = some v) (hi : i = (0 : Nat)) (h : Q v s)
    (hs : autoParam (subscripted slice false (.ref D) (.int i u) = operate [.ref D, .int i u] (getItem (.ref D) (.int i u))) wuAuto) :
    wpAny (model prog w) A (subscriptTail value slice (.ref D) (.int i u)) Q E s := r_at hl hz hj hi h hs
theorem r_last {value slice : PySem.Expr} {i : Int} {u : Tok} {v : Value} (hl : s.heap.IsList D its) (hz : its.size ≤ 100000) (hj : its.back? = some v) (hi : i = -1) (h : Q v s)
    (hs : autoParam (subscripted slice false (.ref D) (.int i u) = operate [.ref D, .int i u] (getItem (.ref D) (.int i u))) wuAuto) :
    wpAny (model prog w) A (subscriptTail value slice (.ref D) (.int i u)) Q E s := by
  have hp : 0 < its.size := by
    rcases Nat.eq_zero_or_pos its.size with e | e
    · rw [Array.eq_empty_of_size_eq_zero e] at hj; simp at hj
    · exact e
  refine tail_any hl.typeIs slot_list_getitem.lookup (wpAny_getItem_list_neg hl (by (first | lia | omega)) (by (first | lia | omega)) (by (first | lia | omega)) ?_ h) hs
  subst hi
  rw [Array.back?_eq_getElem?] at hj
  rw [← hj]; congr 1; rw [Int.add_comm]; exact natSub (b := 1) hp
theorem r_len (hl : s.heap.IsList D its) (hz : its.size ≤ 100000) (h : ∀ t' k', Q (.int (its.size : Nat) t') { s with toks := k' }) : wpAny (model prog w) A (call (.builtin "len") [.ref D]) Q E s :=
  call_len_list hl (by (first | lia | omega)) (h _ _)
theorem isNot_sr {x : PySem.Str} {t : Tok} {S : Addr} (h : Q (.bool true) s) : wpAny (model prog w) A (compareOp .IsNot (.str x t) (.ref S)) Q E s :=
  wpAny_isNot_other (by rfl) (fun e => nomatch e) h
theorem is_sr {x : PySem.Str} {t : Tok} {S : Addr} (h : Q (.bool false) s) : wpAny (model prog w) A (compareOp .Is (.str x t) (.ref S)) Q E s :=
  wpAny_is_other (by rfl) (fun e => nomatch e) h
theorem isNot_rr {S : Addr} (h : Q (.bool false) s) : wpAny (model prog w) A (compareOp .IsNot (.ref S) (.ref S)) Q E s := by
  show wpAny _ _ (do let b ← isSame (.ref S) (.ref S); pure (.bool (!b))) Q E s
  exact wpAny_bind (wpAny_isSame_ref_self (wpAny_pure h))
theorem is_rr {S : Addr} (h : Q (.bool true) s) : wpAny (model prog w) A (compareOp .Is (.ref S) (.ref S)) Q E s := by
  show wpAny _ _ (do let b ← isSame (.ref S) (.ref S); pure (.bool b)) Q E s
  exact wpAny_bind (wpAny_isSame_ref_self (wpAny_pure h))
end
end Li

end
section
set_option Elab.async false
set_option maxRecDepth 100000
set_option maxHeartbeats 4000000
set_option linter.unusedSimpArgs false
set_option linter.unusedVariables false
open PySem PySem.W PySem.Calls PySem.Builtin PySem.Builtin.Str PySem.Builtin.Re PyProof.Rows
namespace Sub
section
variable {prog : Program} {w : World} {A : Around} {E : Value → Shared → Prop} {s : Shared} {Q : Value → Shared → Prop} {l : List Nat} {t u v : Tok}
theorem r_replace_none {c : Nat} {z : List Nat} (hc : c ∉ l) (h : ∀ k', Q (.str (mk l) t) { s with toks := k' }) : wpAny (model prog w) A (call (.builtin "str.replace") [.str (mk l) t, .str (mk [c]) u, .str (mk z) v]) Q E s := by
  have e : (occurrences (mk l) (mk [c]) 0 (mk l).length ((mk l).length + 1)).isEmpty = true := by
    rcases occ_mk l c ((mk l).length + 1) (by (first | lia | omega)) with ⟨_, h2⟩ | ⟨h1, _⟩
    · rw [h2]; rfl
    · exact absurd h1 hc
  refine call_gives F.slot_str_replace (typeIs_str _ _ _) F.entry_str_replace (F.args_str_replace_3 _ _ _) (gives_str_replace (mk l) (mk [c]) (mk z) t u v fun h => ?_) ?_
  · rw [e] at h; cases h
  · rw [e]; exact h s.toks
theorem slot_sub : Slot "re.Pattern" "sub" "re.Pattern.sub" :=
  .of (owner := "re.Pattern") (n := "sub") (by rw [typeLookup_type, builtinLookup_eq_fast]; kernel_rfl) (by decide +kernel) (by decide +kernel) (by decide +kernel)
    (by first | exact .inl (by decide +kernel) | exact .inr (by decide +kernel)) (by rw [isSubtype_type]; kernel_rfl)
theorem type_sub : typeOf (.builtin "re.Pattern.sub") = pure (.type "method_descriptor") := by show builtinType _ = _; rw [builtinType_eq_fast]; kernel_rfl
theorem entry_sub : entryFor table "re.Pattern.sub" = some Builtin.«re.Pattern.sub» := entryFor_of_tree (by kernel_rfl)
theorem entry_loop : entryFor table "re.Pattern.sub.loop" = some Builtin.«re.Pattern.sub.loop» := entryFor_of_tree (by kernel_rfl)
theorem quiet_loop (args : Args) : (Code.builtin "re.Pattern.sub.loop" args).quiet = true := plainId_quiet (by decide +kernel) args
theorem args_sub (a b c : Value) : argsOk "re.Pattern.sub" ⟨[a, b, c], []⟩ := by unfold argsOk; kernel_rfl
theorem fn_call : ∃ b, typeLookup (.type "function") "__call__" = pure (some b) := ⟨.builtin "function.__call__", by rw [typeLookup_type, builtinLookup_eq_fast]; kernel_rfl⟩
theorem sub_str_bytearray : isSubtype (.type "str") (.type "bytearray") = pure false := by rw [isSubtype_type]; kernel_rfl
noncomputable def C76 : Array Nat := #[14, 14, 4, 1, 1, 9, 0, 64, 0, 1342177280, 0, 0, 0, 0, 0, 17, 0, 13, 11, 9, 0, 64, 0, 1342177280, 0, 0, 0, 0, 0, 17, 1, 1]
theorem gets42 : Rx.Gets (Sre.forSearch C76 #[42] 1 0 1 false) .failed 4 := by unfold Rx.Gets; rfl
theorem gets91 : Rx.Gets (Sre.forSearch C76 #[91] 1 0 1 false) .failed 4 := by unfold Rx.Gets; rfl
theorem getMethod_sub (X : (Mine.hd.heap_1 w.params).In s.heap) {pl : Sem Bool} {Q : Value × List Value → Shared → Prop} (h : Q (.builtin "re.Pattern.sub", [.ref 76]) s) :
    wpAny (model prog w) A (getMethod (.ref 76) "sub" pl) Q E s :=
  _root_.PySem.getMethod_builtin ⟨_, X 76 _ rfl, rfl⟩ Rx.attrs_pattern slot_sub type_sub (fun a e => by cases e; exact ⟨_, X 76 _ rfl, rfl⟩) h
theorem whole (X : (Mine.hd.heap_1 w.params).In s.heap) {x : PySem.Str} {tk : Tok} {Q : ReTarget → Shared → Prop}
    (h : Q { pattern := .ref 76, string := .str x tk, code := C76, text := x.cps, kind := 0, groups := 1, pos := 0, lim := x.cps.size } s) :
    wpAny (model prog w) A (reWholeTarget (.ref 76) (.str x tk)) Q E s :=
  (PySem.W.Looks.of_peek (K := Mine.hd.heap_1 w.params) (M := model prog w) X (by kernel_rfl)).here h
theorem call_sub {c : Nat} {lam : Addr} (hc : c = 42 ∨ c = 91) (X : (Mine.hd.heap_1 w.params).In s.heap) (hlam : ∃ o, s.heap.get? lam = some o ∧ o.cls = .type "function")
    (h : ∀ h' t' k', Ext s.heap h' → Q (.str (mk [c]) t') { s with heap := h', toks := k' }) :
    wpAny (model prog w) A (call (.builtin "re.Pattern.sub") [.ref 76, .ref lam, .str (mk [c]) t]) Q E s := by
  have hT : s.TypeIs (.ref 76) "re.Pattern" := ⟨_, X 76 _ rfl, rfl⟩
  have hTl : s.TypeIs (.ref lam) "function" := hlam
  refine wpAny_call (codeAny_call_builtin slot_sub.plain entry_sub (slot_sub.check _ _ _ _ _ _ _ _ hT (args_sub _ _ _) ?_))
  unfold Builtin.«re.Pattern.sub» reSubstitute
  dsimp only
  refine wpAny_bind (wpAny_of_eq (a := [some (.ref lam), some (.str (mk [c]) t), none]) rfl ?_)
  dsimp only
  refine wpAny_bind (wpAny_pure ?_)
  obtain ⟨b, hb⟩ := fn_call
  refine wpAny_bind (wpAny_specialOf hTl hb ?_)
  dsimp only [Option.isSome]
  rw [if_pos rfl]
  refine wpAny_bind (wpAny_pure ?_)
  rw [if_pos rfl]
  refine wpAny_bind (wpAny_pure ?_)
  dsimp only
  refine wpAny_bind (wpAny_holding (whole X ?_))
  rw [if_pos (by decide)]
  unfold reNotHeld
  refine wpAny_bind (wpAny_bind (wpAny_isInstance (typeIs_str _ _ _) sub_str_bytearray ?_))
  rw [if_neg (by decide)]
  refine wpAny_pure ?_
  refine wpAny_bind (wpAny_newObj_type ?_)
  refine wpAny_pure ⟨quiet_loop _, ?_⟩
  refine codeAny_builtin entry_loop ?_
  generalize hD : s.heap.objs.size = D
  have hX' : Ext s.heap (s.heap.push { cls := .type "list", dict := none, data := .seq (List.toArray []) }) := fun b o e => Heap.get?_push_of_some _ e
  have hl : (s.heap.push { cls := .type "list", dict := none, data := .seq (List.toArray []) }).get? D = some (W.listOf #[] 0) := by rw [← hD]; exact Heap.get?_push_size _ rfl
  have hnew : s.heap.get? D = none := by
    cases e : s.heap.get? D with
    | none => rfl
    | some o' => rw [← hD] at e; exact absurd (Heap.lt_size e) (Nat.lt_irrefl _)
  generalize (s.heap.push { cls := .type "list", dict := none, data := .seq (List.toArray []) }) = h1 at hX' hl
  have X1 : (Mine.hd.heap_1 w.params).In h1 := X.keeps hX'
  unfold Builtin.«re.Pattern.sub.loop»
  dsimp only [rawInt]
  refine wpAny_bind (whole (s := { s with heap := h1 }) X1 ?_)
  rw [if_neg (by decide)]
  refine wpAny_bind ?_
  rw [if_neg (by decide)]
  unfold reNextFound
  have g : Rx.Gets (Sre.forSearch C76 (mk [c]).cps 1 (Int.toNat 0) (mk [c]).cps.size false) (if false then .matched else .failed) (4 * 1) := by
    rcases hc with rfl | rfl
    · exact gets42
    · exact gets91
  refine Rx.runToEnd (r := false) g (by decide) (fun e => by cases e) fun _ => ?_
  dsimp only
  rw [if_pos (by show 0 < 1; decide)]
  refine wpAny_bind ?_
  unfold reSlice
  rw [if_pos (by decide)]
  refine wpAny_mkStr ?_ (by show 1 ≤ sizeLine; decide)
  dsimp only
  refine wpAny_bind ?_
  refine wpAny_updateSeq (f := fun x => x.push _) hl rfl ?_
  generalize hk : (Value.str { cps := (mk [c]).cps.extract (Int.toNat 0) (mk [c]).cps.size } s.toks) = x
  have hx : x = .str (mk [c]) s.toks := by rw [← hk]; rfl
  have hu : (h1.update D (Obj.mapSeq fun y => y.push x)).get? D = some (W.listOf #[.str (mk [c]) s.toks] 1) := by
    rw [Heap.get?_update_self (Obj.mapSeq (·.push x)) hl rfl, Obj.mapSeq_push_plain, hx]; rfl
  have hE : Ext s.heap (h1.update D (Obj.mapSeq fun y => y.push x)) := fun b o e => by
    have hb : b ≠ D := by rintro rfl; rw [hnew] at e; cases e
    exact ((Heap.SameBut.update h1 D (Obj.mapSeq fun y => y.push x)).2 b hb).trans (hX' b o e)
  generalize (h1.update D (Obj.mapSeq fun y => y.push x)) = h2 at hu hE
  refine wpAny_bind ?_
  rw [if_pos (by decide)]
  refine wpAny_mkStr ?_ (by show 0 ≤ sizeLine; decide)
  refine wpAny_bind (wpAny_seqItems hu rfl ?_)
  rw [if_neg (by intro e; cases e)]
  refine wpAny_bind ?_
  rw [if_pos (by decide)]
  refine SC.join (l := [(mk [c], s.toks)]) (texts := [mk [c]]) ⟨_, hu, rfl, 1, rfl⟩ rfl ?_ ?_
  · show (!tooLong _) = true
    rw [StrLaws.joinTotal]
    rfl
  · intro t' k'
    rw [if_neg (by decide)]
    exact wpAny_pure (h _ _ _ hE)
end
end Sub

end
open PySem PySem.W PySem.Calls PyProof.Rows
theorem lit_empty : PySem.Str.ofString "" = mk [] := by decide +kernel
theorem lit_dot : PySem.Str.ofString "." = mk [46] := by decide +kernel
theorem lit_star : PySem.Str.ofString "*" = mk [42] := by decide +kernel
theorem lit_q : PySem.Str.ofString "?" = mk [63] := by decide +kernel
theorem lit_br : PySem.Str.ofString "[" = mk [91] := by decide +kernel
theorem lit_bang : PySem.Str.ofString "!" = mk [33] := by decide +kernel
theorem lit_rb : PySem.Str.ofString "]" = mk [93] := by decide +kernel
theorem lit_dash : PySem.Str.ofString "-" = mk [45] := by decide +kernel
theorem lit_bs : PySem.Str.ofString "\\" = mk [92] := by decide +kernel
theorem lit_bs2 : PySem.Str.ofString "\\\\" = mk [92, 92] := by decide +kernel
theorem lit_caret : PySem.Str.ofString "^" = mk [94] := by decide +kernel
theorem lit_local : PySem.Str.ofString "local" = mk [108, 111, 99, 97, 108] := by decide +kernel
local macro_rules | `(tactic| walk_at "nat") => return natT
local macro_rules | `(tactic| walk_at "wd") => return wdT
local macro_rules | `(tactic| walk_at "lit") => litOf "lit_empty lit_dot lit_star lit_q lit_br lit_bang lit_rb lit_dash lit_bs lit_bs2 lit_caret lit_local"
local macro_rules | `(tactic| walk_at "asc") => altM [sd "a", ex "Mine.asc_low" "asc", ex "Mine.asc_drop" "asc", ex "Mine.asc_take" "asc", sd "decide"]
local macro_rules | `(tactic| walk_at "len") => return lenT
local macro_rules | `(tactic| walk_at "my enter") => sqM [ca "k6" (sd "k_is"), ca "k7" (sd "k_is"), ca "k9" (ex "PySem.BindsTo.of_eq" "rfl"), ca "kB" (ex "PyProof.Rows.locs" "rfl"), ca "c5" (sd "decide"), ca "c2" (sd "="), ca "c3" (sd "="), ca "c4" (sd "="), sd "k_whole"]
local macro_rules | `(tactic| walk_at "my fold") => sqM [try1 (sd "dsimp"), try1 (sd "k_fold")]
local macro_rules | `(tactic| walk_at "eval Constant str") => sc "" ``r_const 2 2 "1:lit" "_ _"
local macro_rules | `(tactic| walk_at "call builtin:str.lower") => st "" ``r_lower "asc len" "_ _"
local macro_rules | `(tactic| walk_at "call builtin:str.upper") => st "" ``r_upper "asc len" "_ _"
local macro_rules | `(tactic| walk_at "call builtin:str.startswith") => st "" ``r_starts "" ""
local macro_rules | `(tactic| walk_at "call builtin:str.endswith") => st "" ``r_ends "" ""
local macro_rules | `(tactic| walk_at "call builtin:str.find") => st "" ``r_find "" "_ _"
local macro_rules | `(tactic| walk_at "call builtin:str.rfind") => st "" ``r_rfind "" "_ _"
local macro_rules | `(tactic| walk_at "compareOp Eq str str") => st "" ``r_eq "" ""
local macro_rules | `(tactic| walk_at "compareOp NotEq str str") => st "" ``r_ne "" ""
local macro_rules | `(tactic| walk_at "compareOp Lt str str") => st "" ``r_lt "" ""
local macro_rules | `(tactic| walk_at "binaryOp Add str str") => st "" ``r_add "len" "_ _"
local macro_rules | `(tactic| walk_at "getMethod ref") => st "" ``Rx.getMethod_search "k_in" ""
local macro_rules | `(tactic| walk_at "call builtin:re.Pattern.search") => sqM [rf "Mine.Rx.call_search" "k_in len ?h0 ?h1", caP "h0" [inM "hip'"], caP "h1" [inM "hip' h' r' x' fr' ho'", (haveOf "F'" ``PyProof.Rows.Fr.keeps "a x'"), (haveOf "N'" ``PyProof.Rows.News.grown "a x'")]]
local macro_rules | `(tactic| walk_at "truthy ref") => st "" ``truthy_match "a" ""
local macro_rules | `(tactic| walk_at "ite") => altM [wr (rf "Mine.r_tt" "?_"), wr (rf "Mine.r_ff" "?_"), thenM (rf "Mine.r_ite" "?h1 ?h0") (inM "hc'")]
local macro_rules | `(tactic| walk_at "my ne") => `(tactic| (intro e9; simp_all))
local macro_rules | `(tactic| walk_at "subscriptTail Name Constant str int") => st "d" ``r_item0 "rfl ne len" "_ _"
local macro_rules | `(tactic| walk_at "subscriptTail Name UnaryOp str int") => st "d" ``r_itemL "rfl ne len" "_ _"
local macro_rules | `(tactic| walk_at "my deep") => altM [sd "a", pr [so "PyProof.Rows.depth_deeper" true, sd "nat"], pr [ta "show" "show" (ap ``LT.lt [apH ``HAdd.hAdd 2, holeT]), sd "nat"]]
local macro_rules | `(tactic| walk_at "subscriptTail Name Slice str ref") => st "d" ``r_slice_from "a a ixl len" "_ _ _ F' N'"
local macro_rules | `(tactic| walk_at "subscriptTail Name Slice str ref") => st "d" ``r_slice_to "a a len len" "_ _ _ F' N'"
local macro_rules | `(tactic| walk_at "subscriptTail Name Slice str ref") => st "d" ``r_slice_in "a a len len len" "_ _ _ F' N'"
set_option hygiene false in
local macro_rules | `(tactic| walk_at "execs cons") => `(tactic| ((try dsimp only); (try (k_here; k_gentoks)); (with_reducible refine hide_cons ?_); intro kK hkK; try dsimp only))
local macro_rules | `(tactic| walk_at "unhide") => return unhT
local macro_rules | `(tactic| walk_at "my steps") => stepsOf []
theorem walk_reset_F1 {M : Model} {A : Around} {E : Value → Shared → Prop} {s : Shared} {Q : Bool → Shared → Prop} (h : Q true s) : wpAny M A (truthy (.bool true)) Q E s := by first | (walk1; exact h) | exact wpAny_truthy_bool h
section
set_option maxRecDepth 100000
set_option maxHeartbeats 8000000
set_option linter.unusedVariables false
set_option linter.unusedSimpArgs false
open PySem PySem.W PySem.Calls PyProof.Rows
/-- a name of a host -/
noncomputable def hdn (l : List Nat) : Bool := !Rx.ipv4 (mk l) && decide (l ≠ []) && decide (l.headD 0 ≠ 46) && decide (l.getLastD 0 ≠ 46)
section
variable {prog : Program} {w : World} {A : Around} {E : Value → Shared → Prop} {s : Shared} {Q : Value → Shared → Prop} {mg mb : Str → Option Value} {l k : List Nat} {t u : Tok}
theorem c_is_HDN (W : Wd w mg mb s.heap) (hd : A.depth < recursionLimit) (hl : l.length ≤ 1000)
    (hQ : ∀ h' tk', Ext s.heap h' → Q (.bool (hdn l)) { s with heap := h', toks := tk' }) :
    wpAny (model prog w) A (call (.ref 43) [.str (mk l) t]) Q E s := by
  obtain ⟨X, ⟨_, _, mean, T⟩, _⟩ := W
  k_dflt (refine' enter (binds := [(Str.ofString "text", .str (mk l) t)]) X T ?k6 ?k7 hd ?k9 ?kB ?c5 ?c2 ?c3 ?c4 ?_; walk_at "my enter"; intro L h₁ F N; walk_at "my fold")
  walk_at "my steps"
  all_goals (refine endB (hQ _ _ (Fr.keep (by assumption))) ?_)
  all_goals (unfold hdn; simp_all)
theorem c_liberal (W : Wd w mg mb s.heap) (hd : A.depth < recursionLimit) (hl : l.length ≤ 1000)
    (hQ : ∀ h' tk', Ext s.heap h' → Q (.bool (!Rx.ipv4 (mk l))) { s with heap := h', toks := tk' }) :
    wpAny (model prog w) A (call (.ref 57) [.str (mk l) t]) Q E s := by
  obtain ⟨X, ⟨_, _, mean, T⟩, _⟩ := W
  k_dflt (refine' enter (binds := [(Str.ofString "text", .str (mk l) t)]) X T ?k6 ?k7 hd ?k9 ?kB ?c5 ?c2 ?c3 ?c4 ?_; walk_at "my enter"; intro L h₁ F N; walk_at "my fold")
  walk_at "my steps"
  all_goals (refine endB (hQ _ _ (Fr.keep (by assumption))) ?_)
  all_goals (simp_all)
local macro_rules | `(tactic| walk_at "call ref") => st "f" ``c_is_HDN "wd deep len" "h' tk' x'"
local macro_rules | `(tactic| walk_at "call ref") => st "f" ``c_liberal "wd deep len" "h' tk' x'"
/-- domain_match -/
noncomputable def dmatch (l k : List Nat) : Bool := decide (low l = low k) || (hdn (low l) && decide (¬ (Txt.rfind (mk (low l)) (mk (low k)) = -1 ∨ Txt.rfind (mk (low l)) (mk (low k)) = 0)) && [46].isPrefixOf (low k) && hdn ((low k).drop 1))
theorem c_domain_match (W : Wd w mg mb s.heap) (hd : A.depth + 1 < recursionLimit) (hl : l.length ≤ 1000) (hk : k.length ≤ 1000) (al : Asc l) (ak : Asc k)
    (hQ : ∀ h' tk', Ext s.heap h' → Q (.bool (dmatch l k)) { s with heap := h', toks := tk' }) :
    wpAny (model prog w) A (call (.ref 50) [.str (mk l) t, .str (mk k) u]) Q E s := by
  have W0 := W
  obtain ⟨X, ⟨_, _, mean, T⟩, _⟩ := W
  have hd' : A.depth < recursionLimit := Nat.lt_of_succ_lt hd
  k_dflt (refine' enter (binds := [(Str.ofString "A", .str (mk l) t), (Str.ofString "B", .str (mk k) u)]) X T ?k6 ?k7 hd' ?k9 ?kB ?c5 ?c2 ?c3 ?c4 ?_; walk_at "my enter"; intro L h₁ F N; walk_at "my fold")
  walk_at "my steps"
  all_goals (refine endB (hQ _ _ (Fr.keep (by assumption))) ?_)
  all_goals (unfold dmatch; simp_all)
/-- user_domain_match -/
noncomputable def umatch (l k : List Nat) : Bool := if !Rx.ipv4 (mk (low l)) && !Rx.ipv4 (mk (low k)) then (if [46].isPrefixOf (low k) then (low k).isSuffixOf (low l) else decide (low l = low k)) else decide (low l = low k)
theorem c_user_domain_match (W : Wd w mg mb s.heap) (hd : A.depth + 1 < recursionLimit) (hl : l.length ≤ 1000) (hk : k.length ≤ 1000) (al : Asc l) (ak : Asc k)
    (hQ : ∀ h' tk', Ext s.heap h' → Q (.bool (umatch l k)) { s with heap := h', toks := tk' }) :
    wpAny (model prog w) A (call (.ref 64) [.str (mk l) t, .str (mk k) u]) Q E s := by
  have W0 := W
  obtain ⟨X, ⟨_, _, mean, T⟩, _⟩ := W
  have hd' : A.depth < recursionLimit := Nat.lt_of_succ_lt hd
  k_dflt (refine' enter (binds := [(Str.ofString "A", .str (mk l) t), (Str.ofString "B", .str (mk k) u)]) X T ?k6 ?k7 hd' ?k9 ?kB ?c5 ?c2 ?c3 ?c4 ?_; walk_at "my enter"; intro L h₁ F N; walk_at "my fold")
  walk_at "my steps"
  all_goals (refine endB (hQ _ _ (Fr.keep (by assumption))) ?_)
  all_goals (unfold umatch; simp_all)
/-- reach -/
noncomputable def reachL (l : List Nat) : List Nat := if 46 ∈ l then (let b := l.drop (idx l 46 + 1).toNat; if hdn l && (decide (46 ∈ b) || decide (b = [108, 111, 99, 97, 108])) then 46 :: b else l) else l
theorem c_reach (W : Wd w mg mb s.heap) (hd : A.depth + 1 < recursionLimit) (hl : l.length ≤ 1000)
    (hQ : ∀ h' t' tk', Ext s.heap h' → Q (.str (mk (reachL l)) t') { s with heap := h', toks := tk' }) :
    wpAny (model prog w) A (call (.ref 71) [.str (mk l) t]) Q E s := by
  have W0 := W
  obtain ⟨X, ⟨_, _, mean, T⟩, _⟩ := W
  have hd' : A.depth < recursionLimit := Nat.lt_of_succ_lt hd
  k_dflt (refine' enter (binds := [(Str.ofString "h", .str (mk l) t)]) X T ?k6 ?k7 hd' ?k9 ?kB ?c5 ?c2 ?c3 ?c4 ?_; walk_at "my enter"; intro L h₁ F N; walk_at "my fold")
  walk_at "my steps"
  all_goals (refine endS (hQ _ _ _ (Fr.keep (by assumption))) ?_)
  all_goals (unfold reachL; simp_all [idx_ok])
end
end
theorem walk_reset_F2 {M : Model} {A : Around} {E : Value → Shared → Prop} {s : Shared} {Q : Bool → Shared → Prop} (h : Q true s) : wpAny M A (truthy (.bool true)) Q E s := by first | (walk1; exact h) | exact wpAny_truthy_bool h
section
set_option maxRecDepth 100000
set_option maxHeartbeats 8000000
set_option linter.unusedVariables false
set_option linter.unusedSimpArgs false
open PySem PySem.W PySem.Calls PyProof.Rows

section
variable {prog : Program} {w : World} {A : Around} {E : Value → Shared → Prop} {s : Shared} {Q : Value → Shared → Prop} {mg mb : Str → Option Value} {l k : List Nat} {t u : Tok}
local macro_rules | `(tactic| walk_at "getMethod str") => sqM [wr (rf "Mine.Esc.gm_translate" "?_")]
local macro_rules | `(tactic| walk_at "call builtin:str.translate") => st "f" ``Esc.r_translate "a a k_in" "_ _ _ x'"
theorem c_escape {c : Nat} (W : Wd w mg mb s.heap) (hd : A.depth < recursionLimit) (hh : A.handled = none) (hc : c ∈ Esc.okc)
    (hQ : ∀ h' t' tk', Ext s.heap h' → Q (.str (mk (Esc.esc c)) t') { s with heap := h', toks := tk' }) :
    wpAny (model prog w) A (call (.ref 95) [.str (mk [c]) t]) Q E s := by
  obtain ⟨X, ⟨_, _, mean, T⟩, _⟩ := W
  k_dflt (refine' enter (binds := [(Str.ofString "pattern", .str (mk [c]) t)]) X T ?k6 ?k7 hd ?k9 ?kB ?c5 ?c2 ?c3 ?c4 ?_; walk_at "my enter"; intro L h₁ F N; walk_at "my fold")
  walk_at "my steps"
  all_goals (refine endS (hQ _ _ _ (Fr.keep (by assumption))) rfl)
end
end
section
set_option Elab.async false
set_option maxRecDepth 100000
set_option maxHeartbeats 2000000
open PySem PySem.Builtin
/-- the items of a pattern -/
inductive It where
  | lit (c : Nat) | star | any | cls (c : Nat)
  deriving DecidableEq
noncomputable def It.pat : It → List Nat
  | .lit c => [c]
  | .star => [42]
  | .any => [63]
  | .cls c => [91, c, 93]
noncomputable def It.ok : It → Prop
  | .lit c => c ∈ Esc.okc
  | .cls c => c = 42 ∨ c = 91
  | _ => True
/-- what translate makes of an item that is no star -/
noncomputable def It.txt : It → List Nat
  | .lit c => Esc.esc c
  | .star => []
  | .any => [46]
  | .cls c => if c = 91 then [91, 92, 91, 93] else [91, c, 93]
noncomputable abbrev pat (P : List It) : List Nat := P.flatMap It.pat
noncomputable def noSS : List It → Prop
  | .star :: .star :: _ => False
  | _ :: r => noSS r
  | [] => True
noncomputable def PartV (S : Addr) (i : It) (v : Value) : Prop := if i = .star then v = .ref S else ∃ t, v = .str (mk i.txt) t
inductive All2 {α β : Type} (R : α → β → Prop) : List α → List β → Prop where
  | nil : All2 R [] []
  | cons {a b as bs} : R a b → All2 R as bs → All2 R (a :: as) (b :: bs)
theorem All2.len {α β : Type} {R : α → β → Prop} {as : List α} {bs : List β} (h : All2 R as bs) : as.length = bs.length := by
  induction h with
  | nil => rfl
  | cons _ _ ih => simp [ih]
theorem All2.snoc {α β : Type} {R : α → β → Prop} {as : List α} {bs : List β} {a : α} {b : β} (h : All2 R as bs) (k : R a b) : All2 R (as ++ [a]) (bs ++ [b]) := by
  induction h with
  | nil => exact .cons k .nil
  | cons h' _ ih => exact .cons h' ih
theorem All2.app {α β : Type} {R : α → β → Prop} {as as' : List α} {bs bs' : List β} (h : All2 R as bs) (k : All2 R as' bs') : All2 R (as ++ as') (bs ++ bs') := by
  induction h with
  | nil => exact k
  | cons h' _ ih => exact .cons h' ih
theorem All2.get {α β : Type} {R : α → β → Prop} {as : List α} {bs : List β} (h : All2 R as bs) {i : Nat} {a : α} (hi : as[i]? = some a) : ∃ b, bs[i]? = some b ∧ R a b := by
  induction h generalizing i with
  | nil => simp at hi
  | cons h' _ ih =>
    cases i with
    | zero => simp at hi; subst hi; exact ⟨_, rfl, h'⟩
    | succ i => exact ih (by simpa using hi)
theorem All2.imp {α β : Type} {R R' : α → β → Prop} {as : List α} {bs : List β} (h : All2 R as bs) (k : ∀ a b, R a b → R' a b) : All2 R' as bs := by
  induction h with
  | nil => exact .nil
  | cons h' _ ih => exact .cons (k _ _ h') ih
noncomputable abbrev StrV (l : List Nat) (v : Value) : Prop := ∃ t, v = .str (mk l) t
theorem pat_len (P : List It) : P.length ≤ (pat P).length := by
  induction P with
  | nil => exact Nat.le_refl _
  | cons i r ih =>
    have : (pat (i :: r)).length = i.pat.length + (pat r).length := by simp
    rw [this, List.length_cons]
    cases i <;> simp only [It.pat, List.length_cons, List.length_nil] <;> (first | lia | omega)
theorem noSS_no {pre : List It} {post : List It} (h : noSS ((pre ++ [It.star]) ++ It.star :: post)) : False := by
  induction pre with
  | nil => exact h
  | cons i r ih =>
    apply ih
    have : i :: r ++ [It.star] ++ It.star :: post = i :: (r ++ [It.star] ++ It.star :: post) := by simp
    rw [this] at h
    cases i <;> try exact h
    cases hr : r ++ [It.star] ++ It.star :: post with
    | nil => trivial
    | cons a b => rw [hr] at h; cases a <;> first | exact h | exact h.elim
theorem All2.unsnoc {α β : Type} {R : α → β → Prop} {as : List α} {bs : List β} {a : α} (h : All2 R (as ++ [a]) bs) : ∃ bs' b, bs = bs' ++ [b] ∧ All2 R as bs' ∧ R a b := by
  induction as generalizing bs with
  | nil => cases h with | cons h1 h2 => cases h2; exact ⟨[], _, rfl, .nil, h1⟩
  | cons x r ih =>
    cases h with
    | cons h1 h2 =>
      obtain ⟨bs', b, rfl, h3, h4⟩ := ih h2
      exact ⟨_ :: bs', b, rfl, .cons h1 h3, h4⟩
section
variable {prog : Program} {w : World} {A : Around} {E : Value → Shared → Prop} {s : Shared} {Qb : Bool → Shared → Prop} {l : List Nat} {t : Tok}
theorem r_truthyS (hl : l.length ≤ 100000) (h : ∀ k', Qb (!decide (l = [])) { s with toks := k' }) : wpAny (model prog w) A (truthy (.str (mk l) t)) Qb E s := by
  refine P.truthy_str (by rw [mk_len]; (first | lia | omega)) ?_
  have e : (((mk l).length : Int) != 0) = !decide (l = []) := by
    rw [mk_len]
    cases l with
    | nil => rfl
    | cons a r => simp; (first | lia | omega)
  rw [e]; exact h _
end
section
open PySem.W PySem.Calls PyProof.Rows
variable {prog : Program} {w : World} {A : Around} {E : Value → Shared → Prop} {s : Shared} {Q : Value → Shared → Prop} {l la lb : List Nat} {t : Tok} {h₀ : Heap} {L f : Addr} {m : PySem.Str → Option Value} {name : PySem.Str} {scope : Scope} {cd : Value}
theorem emp_mk (l : List Nat) : PySem.Str.empty ++ mk l = mk l := mk_app [] l
theorem r_f3 {a b x : PySem.Str} {k1 k3 : Nat} {p1 p2 p3 p4 p5 : Pos} (F : Fr h₀ L s.heap m) (ha : a = mk la) (hb : b = mk lb) (hv : m x = some (.str (mk l) t)) (hl : la.length + l.length + lb.length ≤ 100000)
    (hk : scope.kind = .function) (hx : (envOf name scope L f cd).kindOf x = some .local) (hd : (x == ("__debug__" : PySem.Str)) = false)
    (h : ∀ t' k', Q (.str (mk (la ++ l ++ lb)) t') { s with toks := k' }) :
    wpAny (model prog w) A (eval (.JoinedStr [.Constant (.str a) k1 p1, .FormattedValue (.Name x p2) (-1) none p3, .Constant (.str b) k3 p4] p5) (envOf name scope L f cd)) Q E s := by
  have z := szl
  refine JoinedStr_many ?_
  refine joinParts_cons (r_const ha fun _ _ => ⟨?_, ?_⟩)
  · rw [emp_mk, mk_len]; (first | lia | omega)
  rw [emp_mk]
  refine joinParts_cons (FormattedValue_plain (ld (s := { s with toks := _ }) F hv ?_ hk hx hd))
  refine formatField_str (fun _ _ => ⟨?_, ?_⟩) ?_
  · rw [mk_app, mk_len, List.length_append]; (first | lia | omega)
  · rw [mk_app]
    refine joinParts_cons (r_const hb fun _ _ => ⟨?_, ?_⟩)
    · rw [mk_app, mk_len, List.length_append, List.length_append]; (first | lia | omega)
    · rw [mk_app]
      refine joinParts_nil (h _ _) ?_
      rw [mk_len, List.length_append, List.length_append]; (first | lia | omega)
  · rw [mk_len]; (first | lia | omega)
end
section
open PySem.W PySem.Calls PyProof.Rows PySem.Builtin.Str
variable {prog : Program} {w : World} {A : Around} {E : Value → Shared → Prop} {s : Shared} {Q : Value → Shared → Prop} {t : Tok}
theorem glue_mk : ∀ ts : List (List Nat), PySem.Str.join (mk []) (ts.map mk) = mk ts.flatten
  | [] => rfl
  | [a] => by simp [PySem.Str.join]
  | a :: b :: r => by
    have h := glue_mk (b :: r)
    show mk a ++ mk [] ++ PySem.Str.join (mk []) ((b :: r).map mk) = _
    rw [h, mk_app, mk_app]; simp
theorem join_mk (ts : List (List Nat)) : Txt.join (mk []) (ts.map mk) = mk ts.flatten := by
  refine Eq.trans ?_ (glue_mk ts)
  exact StrLaws.glued_eq_join _ _
theorem strVs {ts : List (List Nat)} {vs : List Value} (h : All2 StrV ts vs) : ∃ l, vs = strValues l ∧ l.map (·.1) = ts.map mk := by
  induction h with
  | nil => exact ⟨[], rfl, rfl⟩
  | cons h1 _ ih =>
    obtain ⟨t, rfl⟩ := h1
    obtain ⟨l, rfl, h3⟩ := ih
    exact ⟨(_, t) :: l, rfl, by simp [h3]⟩
theorem r_join {D : Addr} {ts : List (List Nat)} {vs : List Value} (hl : s.heap.IsList D vs.toArray) (hv : All2 StrV ts vs) (hz : ts.flatten.length ≤ 100000)
    (h : ∀ t' k', Q (.str (mk ts.flatten) t') { s with toks := k' }) : wpAny (model prog w) A (call (.builtin "str.join") [.str (mk []) t, .ref D]) Q E s := by
  obtain ⟨l, rfl, h3⟩ := strVs hv
  refine SC.join hl h3 ?_ (by rw [join_mk]; exact h)
  unfold JoinOk
  rw [StrLaws.joinTotal]
  rw [fit_of]
  · rfl
  · have : ((ts.map mk).map (·.length)).sum = ts.flatten.length := by
      rw [List.length_flatten, List.map_map]
      congr 1
    rw [this, mk_len, List.length_nil, Nat.mul_zero, Nat.add_zero]
    exact hz
/-- the text of the rest of a pattern -/
noncomputable def rtail : Bool → List It → List Nat
  | _, [] => []
  | b, i :: r => if i = .star then (if b then [41] else []) ++ (if It.star ∈ r then [40, 63, 62, 46, 42, 63] ++ rtail true r else [46, 42] ++ rtail false r) else i.txt ++ rtail b r
noncomputable abbrev flat (P : List It) : List Nat := P.flatMap It.txt
theorem rtail_app {b : Bool} {r : List It} : ∀ {p : List It}, It.star ∉ p → rtail b (p ++ r) = flat p ++ rtail b r
  | [], _ => rfl
  | i :: p, h => by
    have hi : i ≠ .star := fun e => h (by rw [e]; exact .head _)
    have hp : It.star ∉ p := fun e => h (.tail _ e)
    rw [List.cons_append, rtail, if_neg hi, rtail_app hp]; simp [List.append_assoc]
theorem rtail_flat {b : Bool} {p : List It} (h : It.star ∉ p) : rtail b p = flat p := by
  have := rtail_app (b := b) (r := []) h
  simpa [rtail] using this
theorem rtail_in {r : List It} : rtail true (.star :: r) = 41 :: rtail false (.star :: r) := by
  rw [rtail, rtail, if_pos rfl, if_pos rfl]
  rfl
end
theorem strvLen {a : List (List Nat)} {b : List Value} (h : All2 StrV a b) : a.length = b.length := h.len
theorem All2.back {α β : Type} {R : α → β → Prop} {as : List α} {bs : List β} (h : All2 R as bs) {i : Nat} {b : β} (hi : bs[i]? = some b) : ∃ a, as[i]? = some a ∧ R a b := by
  have hlt : i < as.length := by rw [h.len]; exact (List.getElem?_eq_some_iff.mp hi).1
  obtain ⟨b', h1, h2⟩ := h.get (i := i) (a := as[i]) (by simp [hlt])
  rw [hi] at h1; cases h1
  exact ⟨as[i], by simp [hlt], h2⟩

end
local macro_rules | `(tactic| walk_at "getAttr ref") => st "dl" ``Bm.r_get_append "a a k_mem" "r' h' k' F' N' l'"
local macro_rules | `(tactic| walk_at "callWith ref") => sc "dw" ``Bm.cw_bm 3 3 "1:a 2:k_mem" ""
local macro_rules | `(tactic| walk_at "And") => sqM [scS "dw" ``Bm.bmAnd 3 3 "1:a 2:k_mem" "", try1 (soK "dsimp" "List.nil_append" false)]
local macro_rules | `(tactic| walk_at "call ref") => sc "dwz" ``Bm.r_bound 6 6 "1:a 2:a 3:k_mem 4:k_upd 5:sz" "h' F' N'"
local macro_rules | `(tactic| walk_at "sz") => do
  let q1 ← `(tactic| size_fits)
  altM [ex "Mine.szLe" "len", q1]
local macro_rules | `(tactic| walk_at "call builtin:len") => st "" ``r_len "len" "_ _"
local macro_rules | `(tactic| walk_at "eval Name") => sc "dw" ``ld 3 3 "1:a 2:ra" ""
local macro_rules | `(tactic| walk_at "known") => return knownT
local macro_rules | `(tactic| walk_at "ite") => altM [wr (rf "Mine.r_tt" "?_"), wr (rf "Mine.r_ff" "?_"), rf "Mine.r_iteT" "known ?_", rf "Mine.r_iteF" "known ?_", thenM (rf "Mine.r_ite" "?h1 ?h0") (inM "hc'")]
local macro_rules | `(tactic| walk_at "my steps") => stepsOf stops0
local macro_rules | `(tactic| walk_at "subscriptTail Name Name str int") => st "d" ``r_itemN "len len item" "_ _"
local macro_rules | `(tactic| walk_at "subscriptTail Name Slice str ref") => st "d" ``r_slice_inE "a a len len len a" "_ _ _ F' N'"
local macro_rules | `(tactic| walk_at "call ref") => st "f" ``c_escape "wd deep rfl a" "h' t' tk' x'"
local macro_rules | `(tactic| walk_at "isl") => return islT
local macro_rules | `(tactic| walk_at "truthy ref") => st "d" ``Li.r_truthy "isl len" "_"
local macro_rules | `(tactic| walk_at "subscriptTail Name UnaryOp ref int") => st "d" ``Li.r_last "isl len item rfl" ""
local macro_rules | `(tactic| walk_at "subscriptTail Name Name ref int") => st "d" ``Li.r_at "isl len item rfl" ""
local macro_rules | `(tactic| walk_at "subscriptTail Name Constant ref int") => st "d" ``Li.r_at0 "isl len item rfl" ""
local macro_rules | `(tactic| walk_at "item") => return itemT
local macro_rules | `(tactic| walk_at "compareOp IsNot str ref") => st "" ``Li.isNot_sr "" ""
local macro_rules | `(tactic| walk_at "compareOp Is str ref") => st "" ``Li.is_sr "" ""
local macro_rules | `(tactic| walk_at "compareOp IsNot ref ref") => st "" ``Li.isNot_rr "" ""
local macro_rules | `(tactic| walk_at "compareOp Is ref ref") => st "" ``Li.is_rr "" ""
local macro_rules | `(tactic| walk_at "call builtin:len") => st "" ``Li.r_len "isl len" "_ _"
local macro_rules | `(tactic| walk_at "call builtin:str.replace") => st "" ``Sub.r_replace_none "notin" "_"
local macro_rules | `(tactic| walk_at "notin") => sqM [so "List.mem_cons List.not_mem_nil or_false" false, sd "nat"]
local macro_rules | `(tactic| walk_at "getMethod ref") => st "" ``Sub.getMethod_sub "k_in" ""
local macro_rules | `(tactic| walk_at "call builtin:re.Pattern.sub") => do
  let q1 ← `(tactic| k_dflt refine Sub.call_sub (by assumption) (by k_in) ⟨_, News.get (by assumption) (by k_mem), by first | rfl | assumption⟩ ?_)
  sqM [q1, inM "_ _ _ x'", (haveOf "F'" ``PyProof.Rows.Fr.keeps "a x'"), (haveOf "N'" ``PyProof.Rows.News.grown "a x'")]
local macro_rules | `(tactic| walk_at "up") => altM [ex "Mine.Up.here" "", pr [ta "apply" "apply" (Lean.mkCIdent `Mine.Up.next), alts [sd "a", ex "Mine.upCell" "a", ex "Mine.upCls" "a", ex "Mine.upTy" "a", ex "Mine.upTy" "rfl"], sd "up"]]
local macro_rules | `(tactic| walk_at "eval Lambda") => sc "doml" ``r_lambda 9 9 "1:a 2:a 8:up 3:a 4:a 5:a 6:= 7:=" "f' fo' h' tk' ps' cf' ok' F' N' l'"
local macro_rules | `(tactic| walk_at "compareOp NotIn str str") => st "" ``r_notInS "" ""
local macro_rules | `(tactic| walk_at "compareOp In str str") => st "" ``r_inS "" ""
local macro_rules | `(tactic| walk_at "call ref") => st "f" ``c_escape "wd deep rfl a" "h' t' tk' x'"
local macro_rules | `(tactic| walk_at "truthy str") => st "" ``r_truthyS "len" "_"
theorem lit_rd : PySem.Str.ofString "]" = mk [93] := by decide +kernel
theorem lit_at : PySem.Str.ofString "(?>.*?" = mk [40, 63, 62, 46, 42, 63] := by decide +kernel
theorem lit_ps : PySem.Str.ofString "(?s:" = mk [40, 63, 115, 58] := by decide +kernel
theorem lit_pz : PySem.Str.ofString ")\\Z" = mk [41, 92, 90] := by decide +kernel
theorem lit_pe : PySem.Str.ofString ")" = mk [41] := by decide +kernel
theorem lit_ds : PySem.Str.ofString ".*" = mk [46, 42] := by decide +kernel
local macro_rules | `(tactic| walk_at "lit") => litOf "lit_at lit_ps lit_pz lit_pe lit_ds"
local macro_rules | `(tactic| walk_at "eval JoinedStr") => sc "d" ``r_f3 9 9 "1:a 2:lit 3:lit 4:ra 5:len 6:= 7:= 8:decide" "_ _"
theorem walk_reset_F3 {M : Model} {A : Around} {E : Value → Shared → Prop} {s : Shared} {Q : Bool → Shared → Prop} (h : Q true s) : wpAny M A (truthy (.bool true)) Q E s := by first | (walk1; exact h) | exact wpAny_truthy_bool h
section
set_option maxRecDepth 100000
set_option maxHeartbeats 8000000
set_option linter.unusedVariables false
set_option linter.unusedSimpArgs false
open PySem PySem.W PySem.Calls PyProof.Rows

section
variable {prog : Program} {w : World} {A : Around} {E : Value → Shared → Prop} {s : Shared} {Q : Value → Shared → Prop} {mg mb : Str → Option Value} {l k : List Nat} {t u : Tok}
inductive TrJ (P : List It) (S res add : Addr) (t u tn : Tok) (n : Nat) (m : Str → Option Value) (news : List (Addr × Obj)) : Prop
  | is (pre post vs ti k ps : _) (x1_ : P = pre ++ post) (x2_ : n = post.length) (x3_ : news = [(add, Bm.bm res), (res, W.listOf (vs : List Value).toArray k), (97, tabObj ps)]) (x4_ : Okps ps) (x5_ : All2 (PartV S) pre vs) (x6_ : m (Str.ofString "i") = some (.int ((pat pre).length : Nat) ti)) (x7_ : m (Str.ofString "n") = some (.int ((pat P).length : Nat) tn)) (x8_ : m (Str.ofString "pat") = some (.str (mk (pat P)) t)) (x9_ : m (Str.ofString "res") = some (.ref res)) (x10_ : m (Str.ofString "add") = some (.ref add)) (x11_ : m (Str.ofString "STAR") = some (.ref S)) (x12_ : m (Str.ofString "QUESTION_MARK") = some (.str (mk [46]) u)) : TrJ P S res add t u tn n m news
/-- what a name holds while the class is read -/
inductive TrC (P pre : List It) (S res add : Addr) (t u tn : Tok) (ob ol o7 : Obj) (n : Nat) (m : Str → Option Value) (news : List (Addr × Obj)) : Prop
  | is (x1_ : (n ≤ 1 ∧ ∃ tj, m (Str.ofString "j") = some (.int ((pat pre).length + 2 - n : Nat) tj))) (x2_ : news = [(add, ob), (res, ol), (97, o7)]) (x3_ : (∃ ti, m (Str.ofString "i") = some (.int ((pat pre).length + 1 : Nat) ti))) (x4_ : m (Str.ofString "n") = some (.int ((pat P).length : Nat) tn)) (x5_ : m (Str.ofString "pat") = some (.str (mk (pat P)) t)) (x6_ : m (Str.ofString "res") = some (.ref res)) (x7_ : m (Str.ofString "add") = some (.ref add)) (x8_ : m (Str.ofString "STAR") = some (.ref S)) (x9_ : m (Str.ofString "QUESTION_MARK") = some (.str (mk [46]) u)) : TrC P pre S res add t u tn ob ol o7 n m news
theorem TrJ.step {P pre post : List It} {S res add : Addr} {t u tn ti : Tok} {n : Nat} {m : Str → Option Value} {it : It} {vs : List Value} {v : Value} {k : Nat} {z : Int} {h₀ h' : Heap} {L : Addr} {tk : Nat} {s : Shared} {ps : Array Value} {Qf : Flow → Shared → Prop}
    (F : Fr h₀ L h' m) (N : News h₀ L h' [(add, Bm.bm res), (res, W.listOf (vs.toArray.push v) k), (97, tabObj ps)]) (ok : Okps ps)
    (hP : P = pre ++ it :: post) (hn : n = (it :: post).length) (hA : All2 (PartV S) pre vs) (hv : PartV S it v) (hz : z = ((pat pre).length : Int) + (it.pat.length : Nat))
    (mi : m (Str.ofString "i") = some (.int z ti)) (mn : m (Str.ofString "n") = some (.int ((pat P).length : Nat) tn)) (mp : m (Str.ofString "pat") = some (.str (mk (pat P)) t))
    (mr : m (Str.ofString "res") = some (.ref res)) (ma : m (Str.ofString "add") = some (.ref add)) (mS : m (Str.ofString "STAR") = some (.ref S)) (mQ : m (Str.ofString "QUESTION_MARK") = some (.str (mk [46]) u)) :
    WhileStep2 h₀ L s (TrJ P S res add t u tn) Qf n .next { s with heap := h', toks := tk } := by
  refine endJ F N (n' := post.length) (by rw [hn]; simp) ⟨pre ++ [it], post, vs ++ [v], ti, k, ps, by rw [hP]; simp, rfl, by simp, ok, hA.snoc hv, ?_, mn, mp, mr, ma, mS, mQ⟩
  rw [mi, hz]
  congr 2
  simp
theorem c_translate_ {P : List It} {S : Addr} (W0 : Wd w mg mb s.heap) (hd : A.depth + 1 < recursionLimit) (hh : A.handled = none) (hl : (pat P).length ≤ 1000) (ok : ∀ i ∈ P, i.ok) (nss : noSS P)
    (hQ : ∀ h' r vs n tk', Ext7 s.heap h' → Wd w mg mb h' → h'.get? r = some (W.listOf (vs : List Value).toArray n) → s.heap.get? r = none → All2 (PartV S) P vs → Q (.ref r) { s with heap := h', toks := tk' }) :
    wpAny (model prog w) A (call (.ref 102) [.str (mk (pat P)) t, .ref S, .str (mk [46]) u]) Q E s := by
  obtain ⟨ah, adp, afr, agd, aun⟩ := A
  dsimp only at hh hd
  subst hh
  obtain ⟨X, ⟨_, _, mean, T⟩, BT⟩ := id W0
  have hd' : adp < recursionLimit := Nat.lt_of_succ_lt hd
  k_dflt (refine' enter7 (binds := [(Str.ofString "pat", .str (mk (pat P)) t), (Str.ofString "STAR", .ref S), (Str.ofString "QUESTION_MARK", .str (mk [46]) u)]) X T BT ?k6 ?k7 hd' ?k9 ?kB ?c5 ?c2 ?c3 ?c4 ?_; walk_at "my enter"; intro L h₁ ps X7 T7 ok F N; walk_at "my fold")
  clear X T BT
  obtain ⟨_, T7⟩ := T7
  walk_at "my steps"
  rename_i l' h1 l1 h2 tkA r' h4 k4 l2 h5 tkB t6 k6 D' h6 l3 h7 h7b h8 F8 N8
  refine my_while (TrJ P S l' r' t u t6) F8 (newsSub (news' := [(r', Bm.bm l'), (l', W.listOf #[] 0), (97, tabObj ps)]) N8 (fun p hp => List.mem_cons_of_mem _ hp)) ⟨[], P, [], _, 0, ps, rfl, rfl, rfl, ok, .nil, rfl, rfl, rfl, rfl, rfl, rfl, rfl⟩ ?_
  rintro n m₁ news₁ h₁ tk₁ F N ⟨pre, post, vs, ti, kk, ps', hP, hn, hnews, ok', hA, mi, mn, mp, mr, ma, mS, mQ⟩
  subst hnews
  clear F8 N8 ok ps
  have hne : @Ne Nat r' l' := Nat.ne_of_gt l2.1
  have hne97 : @Ne Nat l' 97 := Nat.ne_of_gt l1
  have hne98 : @Ne Nat r' 97 := Nat.ne_of_gt l2.2
  have hvs : vs.length ≤ 1000 := by have := pat_len P; rw [← hA.len]; have : pre.length ≤ P.length := by rw [hP]; simp
                                    (first | lia | omega)
  cases post with
  | nil =>
    have hlen : (pat P).length = (pat pre).length := by rw [hP, List.append_nil]
    walk_at "my steps"
    rw [List.append_nil] at hP
    subst hP
    exact hQ _ _ _ _ _ (ext7_fr (by assumption)) (Wd.of W0 (by assumption) N (by k_mem) ok') (News.get N (by k_mem)) (fresh7 hne97 (News.fresh N (by k_mem))) hA
  | cons it post =>
    have hlen : (pat P).length = (pat pre).length + it.pat.length + (pat post).length := by rw [hP]; simp [Nat.add_assoc]
    have hget : (pat P)[(pat pre).length]? = it.pat[0]? := by
      have e : pat (pre ++ it :: post) = pat pre ++ (it.pat ++ pat post) := by simp
      rw [hP, e, List.getElem?_append_right (Nat.le_refl _), Nat.sub_self]
      cases it <;> rfl
    have hit : it.ok := ok it (by rw [hP]; simp)
    cases it with
    | any =>
      simp only [It.pat, List.length_cons, List.length_nil, List.getElem?_cons_zero] at hlen hget
      walk_at "my steps"
      (rename Fr _ _ _ _ => Fz); (rename News _ _ _ _ => Nz); exact TrJ.step Fz Nz ok' hP hn hA ⟨_, rfl⟩ rfl rfl mn mp mr ma mS mQ
    | lit c =>
      have hc : c ∈ Esc.okc := hit
      have h42 : c ≠ 42 := by rintro rfl; simp [Esc.okc] at hc
      have h63 : c ≠ 63 := by rintro rfl; simp [Esc.okc] at hc
      have h91 : c ≠ 91 := by rintro rfl; simp [Esc.okc] at hc
      simp only [It.pat, List.length_cons, List.length_nil, List.getElem?_cons_zero] at hlen hget
      walk_at "my steps"
      (rename Fr _ _ _ _ => Fz); (rename News _ _ _ _ => Nz); exact TrJ.step Fz Nz ok' hP hn hA ⟨_, rfl⟩ rfl rfl mn mp mr ma mS mQ
    | star =>
      simp only [It.pat, List.length_cons, List.length_nil, List.getElem?_cons_zero] at hlen hget
      rcases List.eq_nil_or_concat pre with e | ⟨pre', j, e⟩
      · subst e
        cases hA
        walk_at "my steps"
        (rename Fr _ _ _ _ => Fz); (rename News _ _ _ _ => Nz); exact TrJ.step Fz Nz ok' hP hn .nil rfl rfl rfl mn mp mr ma mS mQ
      · have hj : j ≠ .star := by
          rintro rfl
          rw [e] at hP
          rw [hP] at nss
          exact noSS_no (by simpa using nss)
        obtain ⟨vs', v, hv', hvs', hvj⟩ : ∃ vs' v, vs = vs' ++ [v] ∧ All2 (PartV S) pre' vs' ∧ PartV S j v := All2.unsnoc (by rw [e] at hA; simpa using hA)
        unfold PartV at hvj
        rw [if_neg hj] at hvj
        obtain ⟨tj, rfl⟩ := hvj
        subst hv'
        walk_at "my steps"
        (rename Fr _ _ _ _ => Fz); (rename News _ _ _ _ => Nz); exact TrJ.step Fz Nz ok' hP hn hA rfl rfl rfl mn mp mr ma mS mQ
    | cls c =>
      have hget0 : (pat P)[(pat pre).length]? = some 91 := hget
      have hget1 : (pat P)[(pat pre).length + 1]? = some c := by
        have e : pat (pre ++ It.cls c :: post) = pat pre ++ (91 :: c :: 93 :: pat post) := by simp [It.pat]
        rw [hP, e, List.getElem?_append_right (by (first | lia | omega))]; simp
      have hget2 : (pat P)[(pat pre).length + 2]? = some 93 := by
        have e : pat (pre ++ It.cls c :: post) = pat pre ++ (91 :: c :: 93 :: pat post) := by simp [It.pat]
        rw [hP, e, List.getElem?_append_right (by (first | lia | omega))]; simp
      have hsl : ((pat P).take ((pat pre).length + 2)).drop ((pat pre).length + 1) = [c] := by
        have e : pat (pre ++ It.cls c :: post) = pat pre ++ (91 :: c :: 93 :: pat post) := by simp [It.pat]
        rw [hP, e, List.take_append, List.drop_append]; simp
      simp only [It.pat, List.length_cons, List.length_nil, List.getElem?_cons_zero] at hlen
      clear hget
      have hc : c = 42 ∨ c = 91 := hit
      have h33 : c ≠ 33 := by (first | lia | omega)
      have h93 : c ≠ 93 := by (first | lia | omega)
      walk_at "my steps"
      (rename Fr _ _ _ _ => Fz); (rename News _ _ _ _ => Nz)
      refine my_while (TrC P pre S l' r' t u t6 (Bm.bm l') (W.listOf vs.toArray kk) (tabObj ps')) (n₀ := 1) Fz Nz ⟨⟨Nat.le_refl _, _, rfl⟩, rfl, ⟨_, rfl⟩, mn, mp, mr, ma, mS, mQ⟩ ?_
      clear Fz Nz
      rintro n2 m₂ news₂ h₂ tk₂ F N ⟨⟨hn2, tj, mj⟩, hnews, ⟨ti2, mi2⟩, mn, mp, mr, ma, mS, mQ⟩
      subst hnews
      rcases (show n2 = 0 ∨ n2 = 1 by (first | lia | omega)) with e | e
      · subst e
        walk_at "my steps"
        all_goals ((rename Fr _ _ _ _ => Fz); (rename News _ _ _ _ => Nz); (rename (List.any _ _ = _) => ha))
        all_goals (refine TrJ.step Fz (newsSub Nz (fun p hp => List.mem_cons_of_mem _ (List.mem_cons_of_mem _ hp))) (by assumption) hP hn hA ?_ ?_ rfl mn mp mr ma mS mQ)
        all_goals first | (rcases hc with rfl | rfl <;> first | exact absurd ha (by decide) | exact ⟨_, rfl⟩) | (simp only [It.pat, List.length_cons, List.length_nil]; (first | lia | omega))
      · subst e
        walk_at "my steps"
        (rename Fr _ _ _ _ => Fz); (rename News _ _ _ _ => Nz); exact endJ Fz Nz (n' := 0) (by (first | lia | omega)) ⟨⟨by (first | lia | omega), _, rfl⟩, rfl, ⟨_, mi2⟩, mn, mp, mr, ma, mS, mQ⟩
end
end
section
set_option Elab.async false
set_option maxRecDepth 100000
set_option maxHeartbeats 2000000
open PySem PySem.W PySem.Calls PySem.Builtin PyProof.Rows
section
variable {prog : Program} {w : World} {A : Around} {s : Shared} {env : Env} {h₀ : Heap} {L : Addr} {m : PySem.Str → Option Value} {news : List (Addr × Obj)} {Qf : Flow → Shared → Prop} {Ex : (PySem.Str → Option Value) → List (Addr × Obj) → Prop}
inductive MidE (h₀ : Heap) (L : Addr) (f : Heap → Nat → Shared) (Ex : (PySem.Str → Option Value) → List (Addr × Obj) → Prop) (s' : Shared) : Prop
  | is (h' : Heap) (tk : Nat) (m : PySem.Str → Option Value) (news : List (Addr × Obj)) (e : s' = f h' tk) (F : Fr h₀ L h' m) (N : News h₀ L h' news) (x : Ex m news) : MidE h₀ L f Ex s'
/-- what stands when a loop has ended -/
noncomputable def Mid (h₀ : Heap) (L : Addr) (s : Shared) (Ex : (PySem.Str → Option Value) → List (Addr × Obj) → Prop) (Qf : Flow → Shared → Prop) (f : Flow) (s' : Shared) : Prop :=
  match f with
  | .next => MidE h₀ L (fun h tk => { s with heap := h, toks := tk }) Ex s'
  | .ret v => Qf (.ret v) s'
  | f => Qf f s'
theorem my_while_then {test : PySem.Expr} {body : List Stmt} {pos : Pos} (J : Nat → (PySem.Str → Option Value) → List (Addr × Obj) → Prop) (Ex : (PySem.Str → Option Value) → List (Addr × Obj) → Prop) {n₀ : Nat}
    (F : Fr h₀ L s.heap m) (N : News h₀ L s.heap news) (hJ : J n₀ m news)
    (turn : ∀ n m₁ news₁ h₁ tk₁, Fr h₀ L h₁ m₁ → News h₀ L h₁ news₁ → J n m₁ news₁ →
      wpAny (model prog w) A (isTrue test env (eval test env)) (fun b s₂ =>
        if b = true then wpAny (model prog w) A (execs body env) (WhileStep2 h₀ L s J (Mid h₀ L s Ex Qf) n) (fun _ _ => False) s₂ else Mid h₀ L s Ex Qf .next s₂) (fun _ _ => False) { s with heap := h₁, toks := tk₁ })
    (cont : ∀ m₁ news₁ h₁ tk₁, Fr h₀ L h₁ m₁ → News h₀ L h₁ news₁ → Ex m₁ news₁ → Qf .next { s with heap := h₁, toks := tk₁ }) :
    wpAny (model prog w) A (exec (.While test body [] pos) env) Qf (fun _ _ => False) s := by
  refine wpAny_mono (While_inv2 J F N hJ turn PassesOwn.never) (fun f s' h => ?_) (fun _ _ h => h)
  cases f with
  | next => obtain ⟨h', tk, m₁, n₁, rfl, F', N', hE⟩ := h; exact cont m₁ n₁ h' tk F' N' hE
  | ret v => exact h
  | brk => exact h
  | cont => exact h
theorem midE {h' : Heap} {tk : Nat} (F : Fr h₀ L h' m) (N : News h₀ L h' news) (hE : Ex m news) : Mid h₀ L s Ex Qf .next { s with heap := h', toks := tk } := ⟨h', tk, m, news, rfl, F, N, hE⟩
theorem midB {J : Nat → (PySem.Str → Option Value) → List (Addr × Obj) → Prop} {n : Nat} {h' : Heap} {tk : Nat} (F : Fr h₀ L h' m) (N : News h₀ L h' news) (hE : Ex m news) :
    WhileStep2 h₀ L s J (Mid h₀ L s Ex Qf) n .brk { s with heap := h', toks := tk } := ⟨h', tk, m, news, rfl, F, N, hE⟩
end
theorem intE {a b : Int} {t : Tok} (h : a = b) : some (Value.int a t) = some (Value.int b t) := by rw [h]
theorem rtail_star {b : Bool} {r : List It} : rtail b (It.star :: r) = (if b then [41] else []) ++ (if It.star ∈ r then [40, 63, 62, 46, 42, 63] ++ rtail true r else [46, 42] ++ rtail false r) := by
  rw [rtail, if_pos rfl]
theorem rtail_s1 {r fx r3 : List It} (h : r = fx ++ It.star :: r3) (hf : It.star ∉ fx) : rtail false (It.star :: r) = [40, 63, 62, 46, 42, 63] ++ flat fx ++ [41] ++ rtail false (It.star :: r3) := by
  subst h
  refine rtail_star.trans ?_
  rw [if_neg (by decide), if_pos (by simp), rtail_app hf, rtail_in]
  simp
theorem rtail_s2 {r : List It} (hf : It.star ∉ r) : rtail false (It.star :: r) = [46, 42] ++ flat r := by
  refine rtail_star.trans ?_
  rw [if_neg (by decide), if_neg hf, rtail_flat hf]
  simp
section
variable {h₀ h h' : Heap} {L : Addr} {m mg mb : PySem.Str → Option Value} {news : List (Addr × Obj)} {g : Array Value → List (Addr × Obj)} {ps : Array Value} {w : World}
theorem after7 (F : Fr (hid h₀) L h m) (N : News (hid h₀) L h news) (u : Up ps news g) (x : Ext7 h h') (W0 : Wd w mg mb h') : ∃ ps', Okps ps' ∧ Fr (hid h₀) L h' m ∧ News (hid h₀) L h' (g ps') :=
  let ⟨ps', ht, ok⟩ := W0.tab
  ⟨ps', ok, after7F F N u x, after7N F N u x ht⟩
theorem newsAdd {g₀ : Heap} {r : Addr} {o : Obj} (F : Fr g₀ L h m) (N : News g₀ L h' news) (hr : h'.get? r = some o) (hf : h.get? r = none) : News g₀ L h' ((r, o) :: news) := fun p hp => by
  rcases List.mem_cons.mp hp with rfl | hp
  · refine ⟨hr, ?_, ?_⟩
    · rintro rfl
      obtain ⟨oL, _, _, e, _⟩ := F.ns
      rw [hf] at e; cases e
    · cases q : g₀.get? r with
      | none => rfl
      | some o' => have := F.keep _ _ q; rw [hf] at this; cases this
  · exact N p hp
theorem after7r {r : Addr} {o : Obj} (F : Fr (hid h₀) L h m) (N : News (hid h₀) L h news) (u : Up ps news g) (x : Ext7 h h') (W0 : Wd w mg mb h') (hr : h'.get? r = some o) (hf : h.get? r = none) :
    ∃ ps', Okps ps' ∧ Fr (hid h₀) L h' m ∧ News (hid h₀) L h' ((r, o) :: g ps') ∧ ∀ q ∈ news, q.1 ≠ r :=
  let ⟨ps', ok, F', N'⟩ := after7 F N u x W0
  ⟨ps', ok, F', newsAdd F N' hr hf, fun q hq e => by have := (N q hq).1; rw [e, hf] at this; cases this⟩
end
theorem wdOf {h₀ h : Heap} {L : Addr} {m mg mb : PySem.Str → Option Value} {news : List (Addr × Obj)} {ps : Array Value} {w : World} (F : Fr (hid h₀) L h m) (N : News (hid h₀) L h news) (hm : (97, tabObj ps) ∈ news) (ok : Okps ps) (W0 : Wd w mg mb h₀) : Wd w mg mb h := W0.of F N hm ok

end
local macro_rules | `(tactic| walk_at "loadName") => sc "dw" ``ldn 3 3 "1:a 2:ra" ""
local macro_rules | `(tactic| walk_at "call builtin:str.join") => st "d" ``r_join "isl a len" "_ _"
local macro_rules | `(tactic| walk_at "subscriptTail Name Name ref int") => st "d" ``Li.r_at "isl len item rn" ""
theorem walk_reset_F4 {M : Model} {A : Around} {E : Value → Shared → Prop} {s : Shared} {Q : Bool → Shared → Prop} (h : Q true s) : wpAny M A (truthy (.bool true)) Q E s := by first | (walk1; exact h) | exact wpAny_truthy_bool h
section
set_option maxRecDepth 100000
set_option maxHeartbeats 8000000
set_option linter.unusedVariables false
set_option linter.unusedSimpArgs false
open PySem PySem.W PySem.Calls PyProof.Rows
section
variable {prog : Program} {w : World} {A : Around} {E : Value → Shared → Prop} {s : Shared} {Q : Value → Shared → Prop} {mg mb : Str → Option Value} {l k : List Nat} {t u : Tok}
inductive JoA (P : List It) (nn : Nat) (I S res add : Addr) (tn : Tok) (n : Nat) (m : Str → Option Value) (news : List (Addr × Obj)) : Prop
  | is (pre post ws ts ti k : _) (x1_ : P = pre ++ post) (x2_ : It.star ∉ pre) (x3_ : n = post.length) (x4_ : news = [(add, Bm.bm res), (res, W.listOf (ws : List Value).toArray k)]) (x5_ : All2 StrV ts ws) (x6_ : ts.flatten = flat pre) (x7_ : ws.length ≤ pre.length) (x8_ : m (Str.ofString "i") = some (.int (pre.length : Nat) ti)) (x9_ : m (Str.ofString "n") = some (.int (nn : Nat) tn)) (x10_ : m (Str.ofString "inp") = some (.ref I)) (x11_ : m (Str.ofString "res") = some (.ref res)) (x12_ : m (Str.ofString "add") = some (.ref add)) (x13_ : m (Str.ofString "STAR") = some (.ref S)) : JoA P nn I S res add tn n m news
inductive JoB (P : List It) (nn : Nat) (I S res add : Addr) (tn : Tok) (n : Nat) (m : Str → Option Value) (news : List (Addr × Obj)) : Prop
  | is (pre post ws ts ti k : _) (x1_ : P = pre ++ post) (x2_ : (post = [] ∨ ∃ r, post = It.star :: r)) (x3_ : n = post.length) (x4_ : news = [(add, Bm.bm res), (res, W.listOf (ws : List Value).toArray k)]) (x5_ : All2 StrV ts ws) (x6_ : ts.flatten ++ rtail false post = rtail false P) (x7_ : ws.length ≤ 2 * pre.length) (x8_ : m (Str.ofString "i") = some (.int (pre.length : Nat) ti)) (x9_ : m (Str.ofString "n") = some (.int (nn : Nat) tn)) (x10_ : m (Str.ofString "inp") = some (.ref I)) (x11_ : m (Str.ofString "res") = some (.ref res)) (x12_ : m (Str.ofString "add") = some (.ref add)) (x13_ : m (Str.ofString "STAR") = some (.ref S)) : JoB P nn I S res add tn n m news
inductive JoC (R : List It) (p nn : Nat) (I S lf : Addr) (tn : Tok) (ob ol : Obj) (res add : Addr) (n : Nat) (m : Str → Option Value) (news : List (Addr × Obj)) : Prop
  | is (fx post ws ts ti k : _) (x1_ : R = fx ++ post) (x2_ : It.star ∉ fx) (x3_ : n = post.length) (x4_ : news = [(lf, W.listOf (ws : List Value).toArray k), (add, ob), (res, ol)]) (x5_ : All2 StrV ts ws) (x6_ : ts.flatten = flat fx) (x7_ : ws.length ≤ fx.length) (x8_ : m (Str.ofString "i") = some (.int (p + 1 + fx.length : Nat) ti)) (x9_ : m (Str.ofString "n") = some (.int (nn : Nat) tn)) (x10_ : m (Str.ofString "inp") = some (.ref I)) (x11_ : m (Str.ofString "res") = some (.ref res)) (x12_ : m (Str.ofString "add") = some (.ref add)) (x13_ : m (Str.ofString "STAR") = some (.ref S)) (x14_ : m (Str.ofString "fixed") = some (.ref lf)) : JoC R p nn I S lf tn ob ol res add n m news
theorem starEnd {r : List It} : r = [] ∨ (∃ r', r = It.star :: r') ∨ ∃ it r', r = it :: r' ∧ it ≠ .star := by
  cases r with
  | nil => exact .inl rfl
  | cons a r' => by_cases h : a = .star
                 · exact .inr (.inl ⟨r', by rw [h]⟩)
                 · exact .inr (.inr ⟨a, r', rfl, h⟩)
theorem c_join_ {P : List It} {vs : List Value} {I S : Addr} (W0 : Wd w mg mb s.heap) (hd : A.depth + 1 < recursionLimit) (hh : A.handled = none) (hl : P.length ≤ 1000) (hl2 : (rtail false P).length ≤ 10000) (nss : noSS P)
    (hI : s.heap.IsList I vs.toArray) (hvs : All2 (PartV S) P vs)
    (hQ : ∀ h' t' tk', Ext s.heap h' → Q (.str (mk ([40, 63, 115, 58] ++ rtail false P ++ [41, 92, 90])) t') { s with heap := h', toks := tk' }) :
    wpAny (model prog w) A (call (.ref 109) [.ref I, .ref S]) Q E s := by
  obtain ⟨ah, adp, afr, agd, aun⟩ := A
  dsimp only at hh hd
  subst hh
  obtain ⟨X, ⟨_, _, mean, T⟩, BT⟩ := id W0
  have hd' : adp < recursionLimit := Nat.lt_of_succ_lt hd
  have hIl : vs.toArray.size = P.length := by rw [List.size_toArray, hvs.len]
  have hat : ∀ pre it post, P = pre ++ it :: post → ∃ v, vs.toArray[pre.length]? = some v ∧ PartV S it v := fun pre it post hP => by
    obtain ⟨v, h1, h2⟩ := hvs.get (i := pre.length) (a := it) (by rw [hP]; simp)
    exact ⟨v, by simpa using h1, h2⟩
  k_dflt (refine' enter (binds := [(Str.ofString "inp", .ref I), (Str.ofString "STAR", .ref S)]) X T ?k6 ?k7 hd' ?k9 ?kB ?c5 ?c2 ?c3 ?c4 ?_; walk_at "my enter"; intro L h₁ F N; walk_at "my fold")
  walk_at "my steps"
  rename_i tk1 l' h1 l1 h2 tk2 r' h3 k3 l2 h4 tkB t6 k6 D' h5 l3 h6 h7 h8 F9 N9
  refine my_while_then (n₀ := P.length) (JoA P vs.toArray.size I S l' r' t6) (fun m news => ∃ n, JoB P vs.toArray.size I S l' r' t6 n m news) F9 (newsSub N9 (fun p hp => List.mem_cons_of_mem _ hp)) ⟨[], P, [], [], _, 0, rfl, List.not_mem_nil, rfl, rfl, .nil, rfl, Nat.le_refl _, rfl, rfl, rfl, rfl, rfl, rfl⟩ ?_ ?_
  · rintro n m₁ news₁ h₁ tk₁ F N ⟨pre, post, ws, ts, ti, kk, hP, hnp, hn, hnews, hA, hf, hws, mi, mn, mI, mr, ma, mS⟩
    subst hnews
    clear F9 N9
    have hne : @Ne Nat r' l' := Nat.ne_of_gt l2
    have hlen : P.length = pre.length + post.length := by rw [hP]; simp
    rcases starEnd (r := post) with e | ⟨r, e⟩ | ⟨it, post', e, hit⟩
    · subst e
      rw [List.length_nil] at hlen
      walk_at "my steps"
      (rename Fr _ _ _ _ => Fz); (rename News _ _ _ _ => Nz)
      rw [List.append_nil] at hP
      subst hP
      exact midE Fz Nz ⟨0, P, [], ws, ts, ti, kk, by simp, .inl rfl, rfl, rfl, hA, by rw [hf, rtail_flat hnp]; simp [rtail], by (first | lia | omega), mi, mn, mI, mr, ma, mS⟩
    · subst e
      rw [List.length_cons] at hlen
      obtain ⟨v, hv, hv2⟩ := hat _ _ _ hP
      unfold PartV at hv2
      rw [if_pos rfl] at hv2
      subst hv2
      walk_at "my steps"
      (rename Fr _ _ _ _ => Fz); (rename News _ _ _ _ => Nz)
      exact midE Fz Nz ⟨_, pre, It.star :: r, ws, ts, ti, kk, hP, .inr ⟨_, rfl⟩, rfl, rfl, hA, by rw [hf, hP, rtail_app hnp], by (first | lia | omega), mi, mn, mI, mr, ma, mS⟩
    · subst e
      rw [List.length_cons] at hlen
      obtain ⟨v, hv, hv2⟩ := hat _ _ _ hP
      unfold PartV at hv2
      rw [if_neg hit] at hv2
      obtain ⟨tv, rfl⟩ := hv2
      walk_at "my steps"
      (rename Fr _ _ _ _ => Fz); (rename News _ _ _ _ => Nz)
      simp only [List.push_toArray] at Nz
      refine endJ Fz Nz (n' := post'.length) (by rw [hn]; simp) ⟨pre ++ [it], post', ws ++ [.str (mk it.txt) tv], ts ++ [it.txt], _, kk + 1, by rw [hP]; simp, ?_, rfl, rfl, hA.snoc ⟨_, rfl⟩, ?_, ?_, intE ?_, mn, mI, mr, ma, mS⟩
      · intro h; rcases List.mem_append.mp h with h | h
        · exact hnp h
        · exact hit (List.mem_singleton.mp h).symm
      · simp [hf]
      · simp only [List.length_append, List.length_cons, List.length_nil]; (first | lia | omega)
      · simp
  · rintro m₁ news₁ h₁ tk₁ F N ⟨n, JB⟩
    clear F9 N9
    have hne : @Ne Nat r' l' := Nat.ne_of_gt l2
    walk_at "my steps"
    refine my_while_then (n₀ := n) (JoB P vs.toArray.size I S l' r' t6) (fun m news => ∃ ws ts k, All2 StrV ts ws ∧ ts.flatten = rtail false P ∧ news = [(r', Bm.bm l'), (l', W.listOf (ws : List Value).toArray k)] ∧ m (Str.ofString "res") = some (.ref l') ∧ ∃ ti, m (Str.ofString "i") = some (.int (P.length : Nat) ti) ∧ m (Str.ofString "n") = some (.int (vs.toArray.size : Nat) t6)) F N JB ?_ ?_
    · clear JB F N
      rintro n m₁ news₁ h₁ tk₁ F N ⟨pre, post, ws, ts, ti, kk, hP, hpost, hn, hnews, hA, hf, hws, mi, mn, mI, mr, ma, mS⟩
      subst hnews
      have hlen : P.length = pre.length + post.length := by rw [hP]; simp
      rcases hpost with e | ⟨r, e⟩
      · subst e
        rw [List.length_nil] at hlen
        walk_at "my steps"
        (rename Fr _ _ _ _ => Fz); (rename News _ _ _ _ => Nz)
        exact midE Fz Nz ⟨ws, ts, kk, hA, by simpa [rtail] using hf, rfl, mr, ti, by rw [hlen]; exact mi, mn⟩
      · subst e
        rw [List.length_cons] at hlen
        obtain ⟨v, hv, hv2⟩ := hat _ _ _ hP
        unfold PartV at hv2
        rw [if_pos rfl] at hv2
        subst hv2
        rcases r with _ | ⟨it, r⟩
        · rw [List.length_nil] at hlen
          walk_at "my steps"
          try dsimp only
          (rename Fr _ _ _ _ => Fz); (rename News _ _ _ _ => Nz)
          simp only [List.push_toArray] at Nz
          exact midB Fz Nz ⟨_, ts ++ [[46, 42]], kk + 1, hA.snoc ⟨_, rfl⟩, by rw [← hf]; simp [rtail], rfl, mr, _, intE (by rw [hlen]; simp), mn⟩
        · have hit : it ≠ .star := by
            rintro rfl
            rw [hP, show pre ++ It.star :: It.star :: r = (pre ++ [It.star]) ++ It.star :: r by simp] at nss
            exact noSS_no nss
          rw [List.length_cons] at hlen
          obtain ⟨v, hv1, hv2⟩ := hat (pre ++ [It.star]) it r (by rw [hP]; simp)
          rw [List.length_append, List.length_cons, List.length_nil, Nat.zero_add] at hv1
          unfold PartV at hv2
          rw [if_neg hit] at hv2
          obtain ⟨tv, rfl⟩ := hv2
          walk_at "my steps"
          rename_i h0 tk0 lf hx lf2 hy F8 N8
          have hne1 : @Ne Nat lf r' := Nat.ne_of_gt lf2.1
          have hne2 : @Ne Nat lf l' := Nat.ne_of_gt lf2.2
          refine my_while_then (n₀ := (it :: r).length) (JoC (it :: r) pre.length vs.toArray.size I S lf t6 (Bm.bm l') (W.listOf ws.toArray kk) l' r') (fun m news => ∃ n, JoC (it :: r) pre.length vs.toArray.size I S lf t6 (Bm.bm l') (W.listOf ws.toArray kk) l' r' n m news ∧ ∀ a b, it :: r = a ++ b → b.length = n → b = [] ∨ ∃ c, b = It.star :: c) F8 N8
            ⟨[], it :: r, [], [], _, 0, rfl, List.not_mem_nil, rfl, rfl, .nil, rfl, Nat.le_refl _, rfl, mn, mI, mr, ma, mS, rfl⟩ ?_ ?_
          · clear F8 N8
            rintro n2 m₁ news₁ h₁ tk₁ F N ⟨fx, post, ws2, ts2, ti2, k2, hP2, hnp, hn2, hnews, hA2, hf2, hws2, mi, mn, mI, mr, ma, mS, mf⟩
            subst hnews
            have hlen2 : (it :: r).length = fx.length + post.length := by rw [hP2]; simp
            rw [List.length_cons] at hlen2
            rcases starEnd (r := post) with e | ⟨r3, e⟩ | ⟨it2, post', e, hit2⟩
            · subst e
              rw [List.length_nil] at hlen2
              walk_at "my steps"
              (rename Fr _ _ _ _ => Fz); (rename News _ _ _ _ => Nz)
              exact midE Fz Nz ⟨0, ⟨fx, [], ws2, ts2, ti2, k2, hP2, hnp, rfl, rfl, hA2, hf2, hws2, mi, mn, mI, mr, ma, mS, mf⟩, fun a b _ e => .inl (List.eq_nil_of_length_eq_zero e)⟩
            · subst e
              rw [List.length_cons] at hlen2
              obtain ⟨v, hv, hv2⟩ := hat (pre ++ It.star :: fx) It.star r3 (by rw [hP, hP2]; simp)
              rw [show (pre ++ It.star :: fx).length = pre.length + 1 + fx.length by simp; (first | lia | omega)] at hv
              unfold PartV at hv2
              rw [if_pos rfl] at hv2
              subst hv2
              walk_at "my steps"
              (rename Fr _ _ _ _ => Fz); (rename News _ _ _ _ => Nz)
              refine midE Fz Nz ⟨_, ⟨fx, It.star :: r3, ws2, ts2, ti2, k2, hP2, hnp, rfl, rfl, hA2, hf2, hws2, mi, mn, mI, mr, ma, mS, mf⟩, fun a b e1 e2 => .inr ⟨r3, ?_⟩⟩
              exact (List.append_inj' (e1.symm.trans hP2) e2).2
            · subst e
              rw [List.length_cons] at hlen2
              obtain ⟨v, hv, hv2⟩ := hat (pre ++ It.star :: fx) it2 post' (by rw [hP, hP2]; simp)
              rw [show (pre ++ It.star :: fx).length = pre.length + 1 + fx.length by simp; (first | lia | omega)] at hv
              unfold PartV at hv2
              rw [if_neg hit2] at hv2
              obtain ⟨tv2, rfl⟩ := hv2
              walk_at "my steps"
              (rename Fr _ _ _ _ => Fz); (rename News _ _ _ _ => Nz)
              simp only [List.push_toArray] at Nz
              refine endJ Fz Nz (n' := post'.length) (by rw [hn2]; simp) ⟨fx ++ [it2], post', _, ts2 ++ [it2.txt], _, k2 + 1, by rw [hP2]; simp, ?_, rfl, rfl, hA2.snoc ⟨_, rfl⟩, ?_, ?_, intE ?_, mn, mI, mr, ma, mS, mf⟩
              · intro h; rcases List.mem_append.mp h with h | h
                · exact hnp h
                · exact hit2 (List.mem_singleton.mp h).symm
              · simp [hf2]
              · simp only [List.length_append, List.length_cons, List.length_nil]; (first | lia | omega)
              · simp; (first | lia | omega)
          · clear F8 N8
            rintro m₁ news₁ h₁ tk₁ F N ⟨n2, ⟨fx, post, ws2, ts2, ti2, k2, hP2, hnp, hn2, hnews, hA2, hf2, hws2, mi, mn, mI, mr, ma, mS, mf⟩, hpost⟩
            subst hnews
            have hlen2 : (it :: r).length = fx.length + post.length := by rw [hP2]; simp
            rw [List.length_cons] at hlen2
            have hlr := congrArg List.length hf
            rw [List.length_append] at hlr
            rcases hpost fx post hP2 hn2.symm with e | ⟨r3, e⟩
            · subst e
              rw [List.append_nil] at hP2
              have hr : rtail false (It.star :: it :: r) = [46, 42] ++ flat fx := by
                rw [hP2]; exact rtail_s2 hnp
              have hz2 : ts2.flatten.length ≤ 10000 := by rw [hf2]; rw [hr, List.length_append] at hlr; (first | lia | omega)
              rw [List.length_nil] at hlen2
              walk_at "my steps"
              (rename Fr _ _ _ _ => Fz); (rename News _ _ _ _ => Nz)
              simp only [List.push_toArray] at Nz
              refine endJ Fz (newsSub Nz (fun p hp => List.mem_cons_of_mem _ hp)) (n' := 0) (by rw [hn]; simp) ⟨P, [], _, ts ++ [[46, 42]] ++ [ts2.flatten], ti2, kk + 1 + 1, (List.append_nil P).symm, .inl rfl, rfl, rfl, (hA.snoc ⟨_, rfl⟩).snoc ⟨_, rfl⟩, ?_, ?_, ?_, mn, mI, mr, ma, mS⟩
              · rw [← hf, hr, hf2]; simp [rtail]
              · simp only [List.length_append, List.length_cons, List.length_nil]; (first | lia | omega)
              · rw [hlen, show pre.length + (r.length + 1 + 1) = pre.length + 1 + fx.length by (first | lia | omega)]; exact mi
            · subst e
              have hr : rtail false (It.star :: it :: r) = [40, 63, 62, 46, 42, 63] ++ flat fx ++ [41] ++ rtail false (It.star :: r3) := by
                exact rtail_s1 hP2 hnp
              have hz2 : ts2.flatten.length ≤ 10000 := by rw [hf2]; rw [hr] at hlr; simp only [List.length_append] at hlr; (first | lia | omega)
              rw [List.length_cons] at hlen2
              walk_at "my steps"
              (rename Fr _ _ _ _ => Fz); (rename News _ _ _ _ => Nz)
              simp only [List.push_toArray] at Nz
              refine endJ Fz (newsSub Nz (fun p hp => List.mem_cons_of_mem _ hp)) (n' := (It.star :: r3).length) (by rw [hn]; simp only [List.length_cons]; (first | lia | omega)) ⟨pre ++ It.star :: fx, It.star :: r3, _, ts ++ [[40, 63, 62, 46, 42, 63] ++ ts2.flatten ++ [41]], ti2, kk + 1, by rw [hP, hP2]; simp, .inr ⟨_, rfl⟩, rfl, rfl, hA.snoc ⟨_, rfl⟩, ?_, ?_, ?_, mn, mI, mr, ma, mS⟩
              · rw [← hf, hr, hf2]; simp
              · simp only [List.length_append, List.length_cons, List.length_nil]; (first | lia | omega)
              · rw [show (pre ++ It.star :: fx).length = pre.length + 1 + fx.length by simp; (first | lia | omega)]; exact mi
    · rintro m₁ news₁ h₁ tk₁ F N ⟨ws, ts, kk, hA, hf, hnews, mr, ti, mi, mn⟩
      subst hnews
      have hz : ts.flatten.length ≤ 10000 := by rw [hf]; (first | lia | omega)
      walk_at "my steps"
      exact endS (hQ _ _ _ (Fr.keep (by assumption))) (by rw [hf])
end
end
section
set_option Elab.async false
set_option maxRecDepth 100000
set_option maxHeartbeats 2000000
open PySem PySem.W PySem.Calls PySem.Builtin PySem.Builtin.Str PyProof.Rows
section
variable {prog : Program} {w : World} {A : Around} {E : Value → Shared → Prop} {s : Shared} {Q : Value → Shared → Prop} {l : List Nat} {t u v : Tok}
theorem gives_index_from (x y : PySem.Str) (i : Int) (k : Nat) (rest : List Nat) (t u v : Tok) (h : occurrences x y (fromIndex x.length i) x.length 1 = k :: rest) : Gives («str.index» ⟨[.str x t, .str y u, .int i v], []⟩) (.int k) := by
  show Gives (match occurrences x y (max 0 (if i < 0 then i + x.length else i)).toNat (min x.length x.length) 1 with | i :: _ => retInt i | [] => (do rule "str.index.not-found"; raiseError "ValueError" "substring not found")) _
  have e : (max 0 (if i < 0 then i + (x.length : Int) else i)).toNat = fromIndex x.length i := by
    unfold fromIndex; rfl
  rw [Nat.min_self, e, h]
  exact .of_eq rfl
theorem r_index_from {c i j : Nat} {z : Int} (hz : z = i) (h1 : l[j]? = some c) (hij : i ≤ j) (h2 : ∀ k, i ≤ k → k < j → l[k]? ≠ some c) (h : ∀ t' k', Q (.int (j : Nat) t') { s with toks := k' }) :
    wpAny (model prog w) A (call (.builtin "str.index") [.str (mk l) t, .str (mk [c]) u, .int z v]) Q E s := by
  have key : ∀ i, StrLaws.At (mk l) (mk [c]) (mk l).length i ↔ l[i]? = some c := fun i => (sAt_mk l [c] i).trans drop_take_one
  have hf : fromIndex (mk l).length z = i := by subst hz; unfold fromIndex; rw [if_neg (Int.not_lt.mpr (Int.natCast_nonneg i)), Int.max_eq_right (Int.natCast_nonneg i)]; rfl
  rcases StrLaws.occ_head_from (mk l) (mk [c]) (fromIndex (mk l).length z) 1 (Nat.le_refl _) with ⟨_, h0⟩ | ⟨k, r, e, hk1, hk2, hk3⟩
  · exact absurd ((key j).mpr h1) (h0 j (by rw [hf]; exact hij))
  · rw [hf] at hk1 hk3
    have hkj : k = j := by
      rcases Nat.lt_trichotomy k j with hlt | he | hgt
      · exact absurd ((key k).mp hk2) (h2 k hk1 hlt)
      · exact he
      · exact absurd ((key j).mpr h1) (hk3 j hij hgt)
    subst hkj
    exact call_gives F.slot_str_index (typeIs_str _ _ _) F.entry_str_index (F.args_str_index_3 _ _ _) (gives_index_from (mk l) (mk [c]) z k r t u v e) (h _ _)
end
/-- what the law reads of an item -/
noncomputable def It.val : It → Option (List Nat)
  | .star => none
  | .any => some [97, 110, 121]
  | .lit c => some [c]
  | .cls c => some [c]
noncomputable def ItV (i : It) (v : Value) : Prop := match i.val with
  | none => v = .none
  | some l => StrV l v
noncomputable abbrev full (P : List It) : List Nat := [40, 63, 115, 58] ++ rtail false P ++ [41, 92, 90]
theorem rhead (b : Bool) (P : List It) (ok : ∀ i ∈ P, i.ok) : ∃ c R, rtail b P ++ [41, 92, 90] = c :: R ∧ c ≠ 42 := by
  cases P with
  | nil => exact ⟨41, [92, 90], rfl, by decide⟩
  | cons i r =>
    rw [rtail]
    have hi := ok i (.head _)
    cases i with
    | star =>
      rw [if_pos rfl]
      cases b
      · by_cases h : It.star ∈ r
        · rw [if_pos h]; exact ⟨40, _, rfl, by decide⟩
        · rw [if_neg h]; exact ⟨46, _, rfl, by decide⟩
      · exact ⟨41, _, rfl, by decide⟩
    | any => exact ⟨46, _, rfl, by decide⟩
    | lit c =>
      rw [if_neg (by nofun)]
      have hc : c ∈ [46, 55, 97, 98, 99, 108, 111] := hi
      simp only [List.mem_cons, List.not_mem_nil, or_false] at hc
      rcases hc with rfl | rfl | rfl | rfl | rfl | rfl | rfl
      · exact ⟨92, _, rfl, by decide⟩
      all_goals exact ⟨_, _, rfl, by decide⟩
    | cls c =>
      rw [if_neg (by nofun), It.txt]
      by_cases h : c = 91
      · rw [if_pos h]; exact ⟨91, _, rfl, by decide⟩
      · rw [if_neg h]; exact ⟨91, _, rfl, by decide⟩
theorem at_drop {T T0 R : List Nat} (h : T = T0 ++ R) (i : Nat) : T[T0.length + i]? = R[i]? := by rw [h, List.getElem?_append_right (Nat.le_add_right _ _), Nat.add_sub_cancel_left]
theorem at_slice {T T0 R : List Nat} (h : T = T0 ++ R) (k : Nat) : (T.take (T0.length + k)).drop T0.length = R.take k := by
  rw [h, List.take_append, List.drop_append]; simp
section
variable {prog : Program} {w : World} {A : Around} {E : Value → Shared → Prop} {s : Shared} {Q : Value → Shared → Prop} {l : List Nat} {t u v : Tok} {h₀ : Heap} {L : Addr} {m : PySem.Str → Option Value} {news : List (Addr × Obj)} {value slice : PySem.Expr}
theorem r_slice_fromE {i : Int} {ui : Tok} {r : List Nat} (F : Fr h₀ L s.heap m) (N : News h₀ L s.heap news) (hi : 0 ≤ i) (hl : l.length ≤ 100000) (he : l.drop i.toNat = r) (h : ∀ h' t' k', Fr h₀ L h' m → News h₀ L h' news → Q (.str (mk r) t') { s with heap := h', toks := k' })
    (hs : autoParam (subscripted slice false (.str (mk l) t) (.ref s.heap.objs.size) = operate [.ref s.heap.objs.size, .str (mk l) t] (getItem (.str (mk l) t) (.ref s.heap.objs.size))) wuAuto)
    (ht : autoParam (∀ r, letTemporaryGo value (.str (mk l) t) r = pure ()) iwuAuto) :
    wpAny (model prog w) A (subscriptTail value slice (.str (mk l) t) (.ref s.heap.objs.size)) Q E { s with heap := s.heap.push { cls := .type "slice", data := .fields #[.int i ui, .none, .none] } } :=
  r_slice_from F N hi hl (by rw [he]; exact h) hs ht
end

end
section
set_option Elab.async false
set_option maxRecDepth 100000
set_option maxHeartbeats 2000000
open PySem PySem.W PySem.Calls PySem.Builtin PyProof.Rows
section
variable {prog : Program} {w : World} {A : Around} {s : Shared} {env : Env} {h₀ : Heap} {m : PySem.Str → Option Value} {news : List (Addr × Obj)} {Qf : Flow → Shared → Prop}
/-- a loop over what `it` gives -/
noncomputable def MyFor (prog : Program) (w : World) (A : Around) (env : Env) (x : PySem.Str) (body : List Stmt) (Qf : Flow → Shared → Prop) (it : Value) (s₂ : Shared) : Prop :=
  ∃ (I : Addr) (Inv : Nat → Shared → Prop) (k : Nat), it = .ref I ∧ Inv k s₂ ∧ ∀ n s, Inv n s → wpAny (model prog w) A (pyNext (.ref I)) (fun r s₁ => match r with
    | none => Qf .next s₁
    | some v => wpAny (model prog w) A (storeName env x v) (fun _ s₂ => wpAny (model prog w) A (execs body env) (fun f s₃ => match f with
      | .next | .cont => ∃ m, m < n ∧ Inv m s₃
      | .brk => Qf .next s₃
      | .ret v => Qf (.ret v) s₃) (fun _ _ => False) s₂) (fun _ _ => False) s₁) (fun _ _ => False) s
theorem my_for {x : PySem.Str} {px pos : Pos} {iter : PySem.Expr} {body : List Stmt}
    (h : wpAny (model prog w) A (eval iter env) (fun xv s₁ => wpAny (model prog w) A (pyIter xv) (fun it s₂ => MyFor prog w A env x body Qf it s₂) (fun _ _ => False) s₁) (fun _ _ => False) s)
    (hs : autoParam (∀ x, foldedSetIterable iter env x = pure x) irflAuto) :
    wpAny (model prog w) A (exec (.For (.Name x px) iter body [] pos) env) Qf (fun _ _ => False) s := by
  refine wpAny_For (wpAny_mono h (fun xv s₁ h₁ => wpAny_mono h₁ (fun it s₂ h₂ => ?_) fun _ _ e => e) fun _ _ e => e) hs
  obtain ⟨I, Inv, k, rfl, h0, turn⟩ := h₂
  refine codeAny_forLoop (R := fun r s' => match r with | .ok f => Qf f s' | .error e => cameBackBy (model prog w) A env (fun _ _ => False) e s') Inv (fun n s hI => ?_) k h0
  refine wpAny_mono (turn n s hI) (fun r s₁ hr => ?_) fun _ _ e => e.elim
  cases r with
  | none => exact wpAny_execs_nil hr
  | some v => exact wpAny_assign_Name (wpAny_mono hr (fun _ s₂ h₂ => wpAny_mono h₂ (fun f s₃ h₃ => h₃) fun _ _ e => e.elim) fun _ _ e => e.elim)
/-- what stands between two turns -/
inductive ForMid (h₀ : Heap) (L : Addr) (f : Heap → Nat → Shared) (I : Addr) (io : Obj) (J : (PySem.Str → Option Value) → List (Addr × Obj) → Prop) (s₃ : Shared) : Prop
  | is (h' : Heap) (tk : Nat) (m₂ : PySem.Str → Option Value) (news₂ : List (Addr × Obj)) (e : s₃ = f h' tk) (F : Fr h₀ L h' m₂) (N : News h₀ L h' ((I, io) :: news₂)) (j : J m₂ news₂) : ForMid h₀ L f I io J s₃
/-- the loop's invariant -/
inductive ForInv (h₀ : Heap) (L : Addr) (s : Shared) (n : Nat) (I l : Addr) (J : Nat → (PySem.Str → Option Value) → List (Addr × Obj) → Prop) (k : Nat) (s' : Shared) : Prop
  | is (h' : Heap) (tk : Nat) (m' : PySem.Str → Option Value) (news' : List (Addr × Obj)) (i : Nat) (io : Obj) (e : s' = { s with heap := h', toks := tk }) (hi : i ≤ n) (hk : k = n + 1 - i) (hc : io.cls = .type "list_iterator") (hd : io.data = .fields #[.ref l, .int i 0]) (F : Fr h₀ L h' m') (N : News h₀ L h' ((I, io) :: news')) (j : J i m' news') : ForInv h₀ L s n I l J k s'
/-- what stands after a turn of a loop over a list -/
noncomputable def ForStep (h₀ : Heap) (L : Addr) (s : Shared) (I : Addr) (io : Obj) (J : (PySem.Str → Option Value) → List (Addr × Obj) → Prop) (Qf : Flow → Shared → Prop) (f : Flow) (s₃ : Shared) : Prop :=
  match f with
  | .next | .cont => ForMid h₀ L (fun h tk => { s with heap := h, toks := tk }) I io J s₃
  | .brk => Qf .next s₃
  | .ret v => Qf (.ret v) s₃
theorem endF {L I : Addr} {io : Obj} {J : (PySem.Str → Option Value) → List (Addr × Obj) → Prop} {h' : Heap} {tk : Nat} (F : Fr h₀ L h' m) (N : News h₀ L h' ((I, io) :: news)) (hJ : J m news) : ForStep h₀ L s I io J Qf .next { s with heap := h', toks := tk } :=
  ⟨h', tk, m, news, rfl, F, N, hJ⟩
theorem endFc {L I : Addr} {io : Obj} {J : (PySem.Str → Option Value) → List (Addr × Obj) → Prop} {h' : Heap} {tk : Nat} (F : Fr h₀ L h' m) (N : News h₀ L h' ((I, io) :: news)) (hJ : J m news) : ForStep h₀ L s I io J Qf .cont { s with heap := h', toks := tk } :=
  ⟨h', tk, m, news, rfl, F, N, hJ⟩
theorem for_list {x : PySem.Str} {body : List Stmt} {l : Addr} {vs : List Value} (J : Addr → Nat → (PySem.Str → Option Value) → List (Addr × Obj) → Prop)
    (hl : s.heap.IsList l vs.toArray) (F : Fr h₀ env.locals s.heap m) (N : News h₀ env.locals s.heap news) (hh : A.handled = none)
    (hx : env.kindOf x = some .local) (hp : (env.scope.kind == .class || (env.scope.kind == .module && env.locals != env.globals)) = false)
    (hJ : ∀ I, (∀ q ∈ news, q.1 < I) → J I 0 m news)
    (hI : ∀ I i m news, J I i m news → ∀ q ∈ news, q.1 ≠ I)
    (hL : ∀ I i m news h, J I i m news → Fr h₀ env.locals h m → News h₀ env.locals h news → h.IsList l vs.toArray)
    (turn : ∀ I io i v m₁ news₁ h₁ tk₁, io.cls = .type "list_iterator" → vs[i]? = some v → J I i m₁ news₁ → Fr h₀ env.locals h₁ (fun y => if y = x then some v else m₁ y) → News h₀ env.locals h₁ ((I, io) :: news₁) →
      wpAny (model prog w) A (execs body env) (ForStep h₀ env.locals s I io (J I (i + 1)) Qf) (fun _ _ => False) { s with heap := h₁, toks := tk₁ })
    (done : ∀ I m₁ news₁ h₁ tk₁, J I vs.length m₁ news₁ → Fr h₀ env.locals h₁ m₁ → News h₀ env.locals h₁ news₁ → Qf .next { s with heap := h₁, toks := tk₁ }) :
    wpAny (model prog w) A (pyIter (.ref l)) (fun it s₂ => MyFor prog w A env x body Qf it s₂) (fun _ _ => False) s := by
  refine wpAny_pyIter_list hl ?_
  generalize hIa : s.heap.objs.size = I
  let io0 : Obj := { cls := .type "list_iterator", data := .fields #[.ref l, .int 0 0] }
  have N0 : News h₀ env.locals (s.heap.push io0) ((I, io0) :: news) := hIa ▸ N.push F io0
  refine ⟨I, ForInv h₀ env.locals s vs.length I l (J I),
    vs.length + 1, rfl, ⟨_, s.toks, m, news, 0, io0, rfl, Nat.zero_le _, rfl, rfl, rfl, F.push _, N0, hJ I fun q hq => hIa ▸ Heap.lt_size (N q hq).1⟩, ?_⟩
  rintro k s' ⟨h', tk, m', news', i, io, rfl, hi, rfl, hc, hd, F', N', hj⟩
  have hio := N' (I, io) (.head _)
  have hit : h'.IsListIter I l i := ⟨io, hio.1, hc, hd⟩
  have hls := hL I i m' news' h' hj F' (newsSub N' fun p hp => .tail _ hp)
  by_cases hlt : i < vs.length
  · refine wpAny_pyNext_list_item (x := vs[i]) hit hls (by simp [hlt]) fun h₁ hit₁ hs₁ => ?_
    dsimp only
    obtain ⟨io₁, g1, g2, g3⟩ := hit₁
    have F₁ : Fr h₀ env.locals h₁ m' := ⟨F'.ns.extBut hs₁.extBut hio.2.1.symm, fun b o e => (hs₁.2 b fun q => by rw [q, hio.2.2] at e; cases e).trans (F'.keep b o e), F'.above⟩
    have N₁ : News h₀ env.locals h₁ ((I, io₁) :: news') := fun p hp => by
      rcases List.mem_cons.mp hp with rfl | hp
      · exact ⟨g1, hio.2⟩
      · exact ⟨(hs₁.2 p.1 (hI _ _ _ _ hj p hp)).trans (N' p (.tail _ hp)).1, (N' p (.tail _ hp)).2⟩
    refine wpAny_storeName_local hx F₁.ns (fun h₂ hn₂ hs₂ => ?_) hp
    refine wpAny_mono (turn I io₁ i vs[i] m' news' h₂ _ g2 (by simp [hlt]) hj (F₁.set hn₂ hs₂) (N₁.set hs₂)) (fun f s₃ h₃ => ?_) fun _ _ e => e
    have fin : ForMid h₀ env.locals (fun h tk => { s with heap := h, toks := tk }) I io₁ (J I (i + 1)) s₃ → ∃ k', k' < vs.length + 1 - i ∧ ForInv h₀ env.locals s vs.length I l (J I) k' s₃ := by
      rintro ⟨h', tk, m₂, news₂, e, F₃, N₃, hj₃⟩
      exact ⟨vs.length + 1 - (i + 1), stepLt (Nat.le_of_lt (by assumption)), h', tk, m₂, news₂, i + 1, io₁, e, hlt, rfl, g2, g3, F₃, N₃, hj₃⟩
    cases f with
    | next => exact fin h₃
    | cont => exact fin h₃
    | brk => exact h₃
    | ret v => exact h₃
  · have hin : i = vs.length := by (first | lia | omega)
    subst hin
    refine wpAny_pyNext_list_end hh hit hls (by simp) fun h₁ hx₁ => ?_
    dsimp only
    have F₁ : Fr h₀ env.locals h₁ m' := ⟨F'.ns.extBut hx₁ hio.2.1.symm, fun b o e => hx₁ b o (fun q => by rw [q, hio.2.2] at e; cases e) (F'.keep b o e), F'.above⟩
    exact done I m' news' h₁ tk hj F₁ fun p hp => ⟨hx₁ _ _ (hI _ _ _ _ hj p hp) (N' p (.tail _ hp)).1, (N' p (.tail _ hp)).2⟩
theorem neNone {o : Obj} (h : o.cls = .type "list_iterator") : o.cls ≠ .none := by rw [h]; nofun
end

end
section
set_option Elab.async false
set_option maxRecDepth 100000
set_option maxHeartbeats 2000000
open PySem PySem.W PySem.Calls PySem.Builtin PyProof.Rows
theorem pick_mid {v : Value} {vr : List Value} (h : vr ≠ []) : (slicePick (v :: vr).toArray (some 1) (some (-1)) none).toList = vr.dropLast := by
  have hp : 0 < vr.length := List.length_pos_iff.mpr h
  have e : sliceBounds (some 1) (some (-1)) none (v :: vr).toArray.size = (((1 : Nat) : Int), ((vr.length : Nat) : Int), 1) := by
    simp only [sliceBounds, Option.getD_none, show (1 : Int) > 0 by decide, if_true, if_neg (show ¬ ((1 : Int) < 0) by (first | lia | omega)), if_pos (show (-1 : Int) < 0 by (first | lia | omega)), List.size_toArray, List.length_cons]
    congr 1
    · (first | lia | omega)
    · congr 1
      (first | lia | omega)
  rw [kmk_pick_nat _ e]
  show (((v :: vr).drop 1).take (vr.length - 1)) = _
  rw [List.dropLast_eq_take]; rfl
theorem pick_drop {vs : List Value} {k : Nat} {z : Int} (hz : z = (k : Nat)) : (slicePick vs.toArray (some z) none none).toList = vs.drop k := by
  subst hz
  have e : sliceBounds (some (k : Int)) none none vs.toArray.size = (((min k vs.length : Nat) : Int), ((vs.length : Nat) : Int), 1) := by
    simp only [sliceBounds, Option.getD_none, show (1 : Int) > 0 by decide, if_true, if_neg (Int.not_lt.mpr (Int.natCast_nonneg k)), List.size_toArray]
    congr 1
    exact clampN
  rw [kmk_pick_nat _ e]
  show ((vs.drop (min k vs.length)).take (vs.length - min k vs.length)) = _
  rw [List.take_of_length_le (by rw [List.length_drop]; exact Nat.le_refl _)]
  rcases Nat.le_total k vs.length with h | h
  · rw [Nat.min_eq_left h]
  · rw [Nat.min_eq_right h, List.drop_length, List.drop_of_length_le h]
theorem pick_from1 {vs : List Value} : (slicePick vs.toArray (some 1) none none).toList = vs.drop 1 := pick_drop (k := 1) rfl

end
local macro_rules | `(tactic| walk_at "call type:object") => st "dml" ``Ob.r_objectN "a a" "S' h' l' F' N'"
theorem walk_reset_F5 {M : Model} {A : Around} {E : Value → Shared → Prop} {s : Shared} {Q : Bool → Shared → Prop} (h : Q true s) : wpAny M A (truthy (.bool true)) Q E s := by first | (walk1; exact h) | exact wpAny_truthy_bool h
section
set_option maxRecDepth 100000
set_option maxHeartbeats 8000000
set_option linter.unusedVariables false
set_option linter.unusedSimpArgs false
open PySem PySem.W PySem.Calls PyProof.Rows
section
variable {prog : Program} {w : World} {A : Around} {E : Value → Shared → Prop} {s : Shared} {Q : Value → Shared → Prop} {mg mb : Str → Option Value} {l k : List Nat} {t u : Tok}
local macro_rules | `(tactic| walk_at "call ref") => st "r" ``c_translate_ "wd deep rfl a a a" "h' r' vs' n' tk' x' W' hr' hf' hv'"
local macro_rules | `(tactic| walk_at "call ref") => sc "f" ``c_join_ 9 9 "7:isl 8:a 1:wd 2:deep 3:= 4:len 5:len 6:a" "h' t' tk' x'"
theorem c_translate {P : List It} (W0 : Wd w mg mb s.heap) (hd : A.depth + 2 < recursionLimit) (hh : A.handled = none) (hl : (pat P).length ≤ 1000) (hl2 : (rtail false P).length ≤ 10000) (ok : ∀ i ∈ P, i.ok) (nss : noSS P)
    (hQ : ∀ h' t' tk', Ext7 s.heap h' → Wd w mg mb h' → Q (.str (mk (full P)) t') { s with heap := h', toks := tk' }) :
    wpAny (model prog w) A (call (.ref 83) [.str (mk (pat P)) t]) Q E s := by
  obtain ⟨ah, adp, afr, agd, aun⟩ := A
  dsimp only at hh hd
  subst hh
  obtain ⟨X, ⟨_, _, mean, T⟩, BT⟩ := id W0
  have hd' : adp < recursionLimit := by (first | lia | omega)
  have hlP := pat_len P
  k_dflt (refine' enter7 (binds := [(Str.ofString "pat", .str (mk (pat P)) t)]) X T BT ?k6 ?k7 hd' ?k9 ?kB ?c5 ?c2 ?c3 ?c4 ?_; walk_at "my enter"; intro L h₁ ps X7 T7 ok F N; walk_at "my fold")
  clear X T BT
  obtain ⟨_, T7⟩ := T7
  walk_at "my steps"
  exact hQ _ _ _ (ext7_fr (by assumption)) (by walk_at "wd")
end
end
theorem lit_pyes : PySem.Str.ofString "()*+?{}|^$" = mk [40, 41, 42, 43, 63, 123, 125, 124, 94, 36] := by decide +kernel
theorem lit_any : PySem.Str.ofString "any" = mk [97, 110, 121] := by decide +kernel
theorem lit_bsbr : PySem.Str.ofString "\\[" = mk [92, 91] := by decide +kernel
local macro_rules | `(tactic| walk_at "lit") => litOf "lit_pyes lit_any lit_bsbr"
local macro_rules | `(tactic| walk_at "subscriptTail Name Slice str ref") => st "d" ``r_slice_fromE "a a len len a" "_ _ _ F' N'"
local macro_rules | `(tactic| walk_at "subscriptTail Name Slice str ref") => st "d" ``r_slice_last "a a len" "_ _ _ F' N'"
local macro_rules | `(tactic| walk_at "call builtin:str.index") => st "d" ``r_index_from "rfl a len a" "_ _"
local macro_rules | `(tactic| walk_at "subscriptTail Name BinOp str int") => st "d" ``r_itemN "len len item" "_ _"
theorem walk_reset_F6 {M : Model} {A : Around} {E : Value → Shared → Prop} {s : Shared} {Q : Bool → Shared → Prop} (h : Q true s) : wpAny M A (truthy (.bool true)) Q E s := by first | (walk1; exact h) | exact wpAny_truthy_bool h
section
set_option maxRecDepth 100000
set_option maxHeartbeats 8000000
set_option linter.unusedVariables false
set_option linter.unusedSimpArgs false
open PySem PySem.W PySem.Calls PyProof.Rows
section
variable {prog : Program} {w : World} {A : Around} {E : Value → Shared → Prop} {s : Shared} {Q : Value → Shared → Prop} {mg mb : Str → Option Value} {l k : List Nat} {t u : Tok}
inductive RdJ (P : List It) (D : Addr) (t te : Tok) (n : Nat) (m : Str → Option Value) (news : List (Addr × Obj)) : Prop
  | is (pre post b T0 vs ti k : _) (x1_ : P = pre ++ post) (x2_ : (b = true → It.star ∈ post)) (x3_ : n = 2 * post.length + b.toNat) (x4_ : full P = T0 ++ (rtail b post ++ [41, 92, 90])) (x5_ : news = [(D, W.listOf (vs : List Value).toArray k)]) (x6_ : All2 ItV pre vs) (x7_ : m (Str.ofString "at") = some (.int (T0.length : Nat) ti)) (x8_ : m (Str.ofString "end") = some (.int ((full P).length - 3 : Int) te)) (x9_ : m (Str.ofString "inside") = some (.bool b)) (x10_ : m (Str.ofString "text") = some (.str (mk (full P)) t)) (x11_ : m (Str.ofString "items") = some (.ref D)) : RdJ P D t te n m news
local macro_rules | `(tactic| walk_at "my steps") => stepsOf ([ap ``exec [ap ``Stmt.If [ap ``PySem.Expr.Compare [ap ``PySem.Expr.Subscript [holeT, apH ``PySem.Expr.Name 2, holeT], ap ``List.cons [Lean.mkCIdent ``PySem.CmpOp.Eq, holeT], ap ``List.cons [ap ``PySem.Expr.Constant [ap ``PySem.Const.str [ap ``PySem.Str.ofString [Lean.Syntax.mkStrLit "."]], holeT, holeT], holeT], holeT], holeT, holeT, holeT], holeT]] ++ stops0)
theorem ok_meta : ∀ c ∈ [46, 55, 97, 98, 99, 108, 111], decide (c ∈ [40, 41, 42, 43, 63, 123, 125, 124, 94, 36]) = false := by decide
theorem c_read {P : List It} (W0 : Wd w mg mb s.heap) (hd : A.depth + 1 < recursionLimit) (hh : A.handled = none) (hl : P.length ≤ 1000) (hl2 : (rtail false P).length ≤ 10000) (ok : ∀ i ∈ P, i.ok)
    (hQ : ∀ h' r vs n tk', Ext s.heap h' → h'.get? r = some (W.listOf (vs : List Value).toArray n) → s.heap.get? r = none → All2 ItV P vs → Q (.ref r) { s with heap := h', toks := tk' }) :
    wpAny (model prog w) A (call (.ref 133) [.str (mk (full P)) t]) Q E s := by
  obtain ⟨ah, adp, afr, agd, aun⟩ := A
  dsimp only at hh hd
  subst hh
  obtain ⟨X, ⟨_, _, mean, T⟩, BT⟩ := id W0
  have hd' : adp < recursionLimit := Nat.lt_of_succ_lt hd
  have hfl : (full P).length = (rtail false P).length + 7 := by simp [full]
  have hend : (full P).drop (((full P).length : Int) - 3).toNat = [41, 92, 90] := by
    rw [show (((full P).length : Int) - 3).toNat = ([40, 63, 115, 58] ++ rtail false P).length by rw [hfl]; simp; (first | lia | omega)]
    exact List.drop_left
  have hhead : (full P).take (4 : Int).toNat = [40, 63, 115, 58] := rfl
  k_dflt (refine' enter (binds := [(Str.ofString "text", .str (mk (full P)) t)]) X T ?k6 ?k7 hd' ?k9 ?kB ?c5 ?c2 ?c3 ?c4 ?_; walk_at "my enter"; intro L h₁ F N; walk_at "my fold")
  walk_at "my steps"
  (rename Fr _ _ _ _ => F8); (rename News _ _ _ _ => N8)
  refine my_while (n₀ := 2 * P.length + 0) (RdJ P _ t _) F8 N8 ⟨[], P, false, [40, 63, 115, 58], [], _, 0, rfl, nofun, rfl, by simp, rfl, .nil, rfl, rfl, rfl, rfl, rfl⟩ ?_
  rintro n m₁ news₁ h₁ tk₁ F N ⟨pre, post, b, T0, vs, ti, kk, hP, hb, hn, hT, hnews, hA, ma, me, mi, mt, mI⟩
  subst hnews
  clear F8 N8
  have hTl := congrArg List.length hT
  rw [List.length_append, List.length_append] at hTl
  simp only [List.length_cons, List.length_nil] at hTl
  have hvs : vs.length ≤ 1000 := by
    rw [← hA.len]
    have : pre.length ≤ P.length := by rw [hP]; simp
    (first | lia | omega)
  cases post with
  | nil =>
    simp only [rtail, List.length_nil] at hTl
    walk_at "my steps"
    rw [List.append_nil] at hP
    subst hP
    exact hQ _ _ _ _ _ (Fr.keep (by assumption)) (News.get N (by k_mem)) (News.fresh N (by k_mem)) hA
  | cons it post =>
    have hok : it.ok := ok it (by rw [hP]; simp)
    have okp : ∀ i ∈ post, i.ok := fun i hi => ok i (by rw [hP]; simp [hi])
    by_cases hs : it = .star
    · subst hs
      cases b with
      | true =>
        rw [rtail_in] at hT hTl
        have h0 := (at_drop hT 0).trans (show _ = some 41 from rfl)
        rw [Nat.add_zero] at h0
        have h6 := (at_slice hT 6).trans (show _ = 41 :: ((rtail false (It.star :: post) ++ [41, 92, 90]).take 5) from rfl)
        simp only [List.length_cons, List.length_append, List.length_nil] at hTl
        walk_at "my steps"
        (rename Fr _ _ _ _ => Fz); (rename News _ _ _ _ => Nz)
        exact endJ Fz Nz (n' := 2 * (post.length + 1)) (by rw [hn]; simp) ⟨pre, It.star :: post, false, T0 ++ [41], vs, _, kk, hP, nofun, rfl, by rw [hT]; simp, rfl, hA, intE (by simp), me, rfl, mt, mI⟩
      | false =>
        by_cases hm : It.star ∈ post
        · have e : rtail false (It.star :: post) = [40, 63, 62, 46, 42, 63] ++ rtail true post := by rw [rtail_star, if_neg (by decide), if_pos hm]; rfl
          rw [e] at hT hTl
          have h6 := (at_slice hT 6).trans (show _ = [40, 63, 62, 46, 42, 63] from rfl)
          simp only [List.length_append, List.length_cons, List.length_nil] at hTl
          walk_at "my steps"
          (rename Fr _ _ _ _ => Fz); (rename News _ _ _ _ => Nz)
          simp only [List.push_toArray] at Nz
          exact endJ Fz Nz (n' := 2 * post.length + 1) (by rw [hn]; simp; (first | lia | omega)) ⟨pre ++ [It.star], post, true, T0 ++ [40, 63, 62, 46, 42, 63], _, _, kk + 1, by rw [hP]; simp, fun _ => hm, rfl, by rw [hT]; simp, rfl, hA.snoc rfl, intE (by simp), me, rfl, mt, mI⟩
        · have e : rtail false (It.star :: post) = [46, 42] ++ rtail false post := by rw [rtail_star, if_neg (by decide), if_neg hm]; rfl
          rw [e] at hT hTl
          have h6 := (at_slice hT 6).trans (show _ = 46 :: 42 :: ((rtail false post ++ [41, 92, 90]).take 4) from rfl)
          have h2 := (at_slice hT 2).trans (show _ = [46, 42] from rfl)
          have h0 := (at_drop hT 0).trans (show _ = some 46 from rfl)
          rw [Nat.add_zero] at h0
          simp only [List.length_append, List.length_cons, List.length_nil] at hTl
          walk_at "my steps"
          (rename Fr _ _ _ _ => Fz); (rename News _ _ _ _ => Nz)
          simp only [List.push_toArray] at Nz
          exact endJ Fz Nz (n' := 2 * post.length + 0) (by rw [hn]; simp) ⟨pre ++ [It.star], post, false, T0 ++ [46, 42], _, _, kk + 1, by rw [hP]; simp, nofun, rfl, by rw [hT]; simp, rfl, hA.snoc rfl, intE (by simp), me, mi, mt, mI⟩
    · have e : rtail b (it :: post) = it.txt ++ rtail b post := by rw [rtail, if_neg hs]
      rw [e] at hT hTl
      rw [List.length_append] at hTl
      have hb' : b = true → It.star ∈ post := fun h => by
        rcases List.mem_cons.mp (hb h) with q | q
        · exact absurd q.symm hs
        · exact q
      obtain ⟨c1, R1, hR1, hc1⟩ := rhead b post okp
      rw [List.append_assoc, hR1] at hT
      have gen : ∃ x y r4, ((full P).take (T0.length + 6)).drop T0.length = x :: y :: r4 ∧ ((full P).take (T0.length + 2)).drop T0.length = [x, y] ∧ (full P)[T0.length]? = some x ∧ decide (x :: y :: r4 = [40, 63, 62, 46, 42, 63]) = false ∧ decide ([x] = [41]) = false ∧ decide ([x, y] = [46, 42]) = false := by
        have mk3 : ∀ {x y : Nat} {r : List Nat}, full P = T0 ++ (x :: y :: r) → x ≠ 40 → x ≠ 41 → (x = 46 → y ≠ 42) → ∃ x y r4, ((full P).take (T0.length + 6)).drop T0.length = x :: y :: r4 ∧ ((full P).take (T0.length + 2)).drop T0.length = [x, y] ∧ (full P)[T0.length]? = some x ∧ decide (x :: y :: r4 = [40, 63, 62, 46, 42, 63]) = false ∧ decide ([x] = [41]) = false ∧ decide ([x, y] = [46, 42]) = false := fun {x y r} h a b c =>
          ⟨x, y, r.take 4, (at_slice h 6).trans rfl, (at_slice h 2).trans rfl, (at_drop h 0).trans rfl, decide_eq_false fun q => a (List.cons.inj q).1, decide_eq_false fun q => b (List.cons.inj q).1, decide_eq_false fun q => c (List.cons.inj q).1 (List.cons.inj (List.cons.inj q).2).1⟩
        cases it with
        | star => exact absurd rfl hs
        | any => exact mk3 (x := 46) (y := c1) (r := R1) hT (by decide) (by decide) fun _ => hc1
        | lit c =>
          by_cases hc : c = 46
          · subst hc
            exact mk3 (x := 92) (y := 46) (r := c1 :: R1) hT (by decide) (by decide) fun q => absurd q (by decide)
          · have hc2 : c ∈ [46, 55, 97, 98, 99, 108, 111] := hok
            rw [It.txt, Esc.esc, if_neg hc] at hT
            exact mk3 (x := c) (y := c1) (r := R1) hT (fun q => by subst q; exact absurd hc2 (by decide)) (fun q => by subst q; exact absurd hc2 (by decide)) fun q => absurd q hc
        | cls c =>
          have hc : c = 42 ∨ c = 91 := hok
          rcases hc with rfl | rfl
          · exact mk3 (x := 91) (y := 42) (r := 93 :: c1 :: R1) hT (by decide) (by decide) fun q => absurd q (by decide)
          · exact mk3 (x := 91) (y := 92) (r := 91 :: 93 :: c1 :: R1) hT (by decide) (by decide) fun q => absurd q (by decide)
      obtain ⟨x, y, r4, g6, g2, g0, k6, k41, k2⟩ := gen
      have htx : 1 ≤ it.txt.length := by
        cases it with
        | star => exact absurd rfl hs
        | any => exact Nat.le_refl _
        | lit c => rw [It.txt, Esc.esc]; split <;> simp
        | cls c => rw [It.txt]; split <;> simp
      walk_at "my steps"
      clear g6 g2 g0 k6 k41 k2
      (rename Fr _ _ _ _ => Fq); (rename News _ _ _ _ => Nq)
      cases it with
      | star => exact absurd rfl hs
      | any =>
        simp only [It.txt, List.length_cons, List.length_nil] at hTl
        have h0 := (at_drop hT 0).trans (show _ = some 46 from rfl)
        rw [Nat.add_zero] at h0
        walk1
        walk_at "my steps"
        (rename Fr _ _ _ _ => Fz); (rename News _ _ _ _ => Nz)
        simp only [List.push_toArray] at Nz
        exact endJ Fz Nz (n' := 2 * post.length + b.toNat) (by rw [hn]; simp) ⟨pre ++ [It.any], post, b, T0 ++ [46], _, _, kk + 1, by rw [hP]; simp, hb', rfl, by rw [hT, hR1]; simp [It.txt], rfl, hA.snoc ⟨_, rfl⟩, intE (by simp), me, mi, mt, mI⟩
      | lit c =>
        by_cases hc : c = 46
        · subst hc
          simp only [It.txt, Esc.esc, if_true, List.length_cons, List.length_nil] at hTl hT
          have h0 := (at_drop hT 0).trans (show _ = some 92 from rfl)
          rw [Nat.add_zero] at h0
          have h1 := (at_drop hT 1).trans (show _ = some 46 from rfl)
          walk1
          walk_at "my steps"
          (rename Fr _ _ _ _ => Fz); (rename News _ _ _ _ => Nz)
          simp only [List.push_toArray] at Nz
          exact endJ Fz Nz (n' := 2 * post.length + b.toNat) (by rw [hn]; simp) ⟨pre ++ [It.lit 46], post, b, T0 ++ [92, 46], _, _, kk + 1, by rw [hP]; simp, hb', rfl, by rw [hT, hR1]; simp, rfl, hA.snoc ⟨_, rfl⟩, intE (by simp), me, mi, mt, mI⟩
        · have hmeta := ok_meta c hok
          have hc2 : c = 46 ∨ c = 55 ∨ c = 97 ∨ c = 98 ∨ c = 99 ∨ c = 108 ∨ c = 111 := by
            have : c ∈ [46, 55, 97, 98, 99, 108, 111] := hok
            simpa using this
          simp only [It.txt, Esc.esc, if_neg hc, List.length_cons, List.length_nil] at hTl hT
          have h0 := (at_drop hT 0).trans (show _ = some c from rfl)
          rw [Nat.add_zero] at h0
          walk1
          walk_at "my steps"
          (rename Fr _ _ _ _ => Fz); (rename News _ _ _ _ => Nz)
          simp only [List.push_toArray] at Nz
          exact endJ Fz Nz (n' := 2 * post.length + b.toNat) (by rw [hn]; simp) ⟨pre ++ [It.lit c], post, b, T0 ++ [c], _, _, kk + 1, by rw [hP]; simp, hb', rfl, by rw [hT, hR1]; simp, rfl, hA.snoc ⟨_, rfl⟩, intE (by simp), me, mi, mt, mI⟩
      | cls c =>
        have hc : c = 42 ∨ c = 91 := hok
        rcases hc with rfl | rfl
        · simp only [It.txt, if_neg (show ¬ (42 : Nat) = 91 by decide), List.length_cons, List.length_nil] at hTl hT
          have h0 := (at_drop hT 0).trans (show _ = some 91 from rfl)
          rw [Nat.add_zero] at h0
          have h3 := (at_drop hT 2).trans (show _ = some 93 from rfl)
          have h4 : ∀ k, T0.length ≤ k → k < T0.length + 2 → (full P)[k]? ≠ some 93 := fun k k1 k2 => by
            obtain ⟨d, rfl⟩ := Nat.le.dest k1
            rw [at_drop hT d]
            rcases d with _ | _ | d
            · simp
            · simp
            · exact absurd (Nat.lt_of_add_lt_add_left k2) (Nat.not_lt_of_le (Nat.le_add_left 2 d))
          have h5 : ((full P).take (T0.length + 2)).drop (T0.length + 1) = [42] := by
            rw [← List.drop_drop, at_slice hT 2]; rfl
          walk1
          walk_at "my steps"
          (rename Fr _ _ _ _ => Fz); (rename News _ _ _ _ => Nz)
          simp only [List.push_toArray] at Nz
          exact endJ Fz (newsSub Nz (fun p hp => List.mem_cons_of_mem _ hp)) (n' := 2 * post.length + b.toNat) (by rw [hn]; simp) ⟨pre ++ [It.cls 42], post, b, T0 ++ [91, 42, 93], _, _, kk + 1, by rw [hP]; simp, hb', rfl, by rw [hT, hR1]; simp, rfl, hA.snoc ⟨_, rfl⟩, intE (by simp), me, mi, mt, mI⟩
        · simp only [It.txt, if_true, List.length_cons, List.length_nil] at hTl hT
          have h0 := (at_drop hT 0).trans (show _ = some 91 from rfl)
          rw [Nat.add_zero] at h0
          have h3 := (at_drop hT 3).trans (show _ = some 93 from rfl)
          have h4 : ∀ k, T0.length ≤ k → k < T0.length + 3 → (full P)[k]? ≠ some 93 := fun k k1 k2 => by
            obtain ⟨d, rfl⟩ := Nat.le.dest k1
            rw [at_drop hT d]
            rcases d with _ | _ | _ | d
            · simp
            · simp
            · simp
            · exact absurd (Nat.lt_of_add_lt_add_left k2) (Nat.not_lt_of_le (Nat.le_add_left 3 d))
          have h5 : ((full P).take (T0.length + 3)).drop (T0.length + 1) = [92, 91] := by
            rw [← List.drop_drop, at_slice hT 3]; rfl
          walk1
          walk_at "my steps"
          (rename Fr _ _ _ _ => Fz); (rename News _ _ _ _ => Nz)
          simp only [List.push_toArray] at Nz
          exact endJ Fz (newsSub Nz (fun p hp => List.mem_cons_of_mem _ hp)) (n' := 2 * post.length + b.toNat) (by rw [hn]; simp) ⟨pre ++ [It.cls 91], post, b, T0 ++ [91, 92, 91, 93], _, _, kk + 1, by rw [hP]; simp, hb', rfl, by rw [hT, hR1]; simp, rfl, hA.snoc ⟨_, rfl⟩, intE (by simp), me, mi, mt, mI⟩
end
end
local macro_rules | `(tactic| walk_at "my steps") => stepsOf stops1
theorem walk_reset_F7 {M : Model} {A : Around} {E : Value → Shared → Prop} {s : Shared} {Q : Bool → Shared → Prop} (h : Q true s) : wpAny M A (truthy (.bool true)) Q E s := by first | (walk1; exact h) | exact wpAny_truthy_bool h
section
set_option maxRecDepth 100000
set_option maxHeartbeats 8000000
set_option linter.unusedVariables false
set_option linter.unusedSimpArgs false
open PySem PySem.W PySem.Calls PyProof.Rows
noncomputable def gAt : List It → List Nat → Bool
  | [], _ => true
  | _ :: _, [] => false
  | g :: G, c :: r => (decide (g.val = some [97, 110, 121]) || decide (g.val = some [c])) && gAt G r
section
variable {prog : Program} {w : World} {A : Around} {E : Value → Shared → Prop} {s : Shared} {Q : Value → Shared → Prop} {mg mb : Str → Option Value} {l k : List Nat} {t u : Tok}
theorem gAt_long {P : List It} : ∀ {l : List Nat}, l.length < P.length → gAt P l = false := by
  induction P with
  | nil => intro l h; simp at h
  | cons g G ih =>
    intro l h
    cases l with
    | nil => rfl
    | cons c r => rw [gAt, ih (by simpa using h)]; simp
inductive AtJ (P : List It) (l : List Nat) (a : Nat) (G : Addr) (tn : Tok) (I : Addr) (i : Nat) (m : Str → Option Value) (news : List (Addr × Obj)) : Prop
  | is (x1_ : news = []) (x2_ : (∃ ta, m (Str.ofString "at") = some (.int (a + i : Nat) ta))) (x3_ : m (Str.ofString "name") = some (.str (mk l) tn)) (x4_ : gAt P (l.drop a) = gAt (P.drop i) (l.drop (a + i))) : AtJ P l a G tn I i m news
theorem c_at {P : List It} {G : Addr} {gs : List Value} {a : Nat} {ta : Tok} (W0 : Wd w mg mb s.heap) (hd : A.depth + 1 < recursionLimit) (hh : A.handled = none) (hl : l.length ≤ 1000) (hP : P.length ≤ 1000)
    (hG : s.heap.IsList G gs.toArray) (hg : All2 ItV P gs) (hs : It.star ∉ P) (ha : a ≤ l.length)
    (hQ : ∀ h' tk', Ext s.heap h' → Q (.bool (gAt P (l.drop a))) { s with heap := h', toks := tk' }) :
    wpAny (model prog w) A (call (.ref 140) [.ref G, .str (mk l) t, .int (a : Nat) ta]) Q E s := by
  obtain ⟨ah, adp, afr, agd, aun⟩ := A
  dsimp only at hh hd
  subst hh
  obtain ⟨X, ⟨_, _, mean, T⟩, BT⟩ := id W0
  have hd' : adp < recursionLimit := Nat.lt_of_succ_lt hd
  have hgl : gs.toArray.size = P.length := by rw [List.size_toArray, hg.len]
  k_dflt (refine' enter (binds := [(Str.ofString "group", .ref G), (Str.ofString "name", .str (mk l) t), (Str.ofString "at", .int (a : Nat) ta)]) X T ?k6 ?k7 hd' ?k9 ?kB ?c5 ?c2 ?c3 ?c4 ?_; walk_at "my enter"; intro L h₁ F N; walk_at "my fold")
  by_cases hlen : a + P.length ≤ l.length
  · walk_at "my steps"
    (rename Fr _ _ _ _ => F8); (rename News _ _ _ _ => N8)
    refine my_for ?_
    walk_at "my steps"
    refine for_list (AtJ P l a G t) (Heap.IsList.at hG (fun o e => Fr.keep F8 _ o e)) F8 N8 rfl rfl rfl (fun I _ => ⟨rfl, ⟨_, rfl⟩, rfl, rfl⟩) (fun I i m news hj q hq => by rw [hj.1] at hq; cases hq) (fun I i m news h hj F _ => Heap.IsList.at hG (fun o e => Fr.keep F _ o e)) ?_ ?_
    · rintro I io i v m₁ news₁ h₁ tk₁ hio hv ⟨rfl, ⟨ta2, mat⟩, mn, he⟩ F N
      have hi : i < P.length := by
        have := (List.getElem?_eq_some_iff.mp hv).1
        rw [← hg.len] at this; exact this
      obtain ⟨v', hv', hiv⟩ := hg.get (i := i) (a := P[i]) (by simp [hi])
      rw [hv] at hv'
      obtain rfl := Option.some.inj hv'
      have hns : P[i] ≠ .star := fun e => hs (e ▸ List.getElem_mem hi)
      obtain ⟨l', hl', t', rfl⟩ : ∃ l', P[i].val = some l' ∧ StrV l' v := by
        unfold ItV at hiv
        revert hiv hns
        cases P[i] <;> intro hiv hns <;> first | exact absurd rfl hns | exact ⟨_, rfl, hiv⟩
      obtain ⟨c, hc⟩ : ∃ c, l[a + i]? = some c := ⟨l[a + i]'(by (first | lia | omega)), by simp⟩
      have hstep : gAt (P.drop i) (l.drop (a + i)) = ((decide (l' = [97, 110, 121]) || decide (l' = [c])) && gAt (P.drop (i + 1)) (l.drop (a + (i + 1)))) := by
        rw [List.drop_eq_getElem_cons hi, List.drop_eq_getElem_cons (show a + i < l.length by (first | lia | omega)), gAt, hl']
        have : l[a + i] = c := by simpa [List.getElem?_eq_getElem (show a + i < l.length by (first | lia | omega))] using hc
        rw [this]
        simp [Nat.add_assoc]
      by_cases h1 : l' = [97, 110, 121]
      · walk_at "my steps"
        (rename Fr _ _ _ _ => Fz); (rename News _ _ _ _ => Nz)
        exact endF Fz Nz ⟨rfl, ⟨_, intE (by (first | lia | omega))⟩, mn, he.trans (hstep.trans (by simp [h1]))⟩
      · by_cases h2 : l' = [c]
        · subst h2
          walk_at "my steps"
          (rename Fr _ _ _ _ => Fz); (rename News _ _ _ _ => Nz)
          exact endF Fz Nz ⟨rfl, ⟨_, intE (by (first | lia | omega))⟩, mn, he.trans (hstep.trans (by simp))⟩
        · walk_at "my steps"
          (try unfold ForStep)
          (try dsimp only)
          walk_at "my steps"
          try dsimp only
          exact endB (hQ _ _ (Fr.keep (by assumption))) (he.trans (hstep.trans (by simp [h1, h2])))
    · rintro I m₁ news₁ h₁ tk₁ ⟨rfl, _, _, he⟩ F N
      rw [← hg.len, List.drop_length] at he
      walk_at "my steps"
      exact endB (hQ _ _ (Fr.keep (by assumption))) he
  · walk_at "my steps"
    exact endB (hQ _ _ (Fr.keep (by assumption))) (gAt_long (by rw [List.length_drop]; (first | lia | omega)))
end
end
local macro_rules | `(tactic| walk_at "pick") => altM [ex "Mine.pick_mid" "a", ex "Mine.pick_from1" ""]
local macro_rules | `(tactic| walk_at "subscriptTail Name Slice ref ref") => sc "dl" ``kmk_slice_lit 10 7 "1:a 2:a 3:isl 4:ip 5:ip 6:pick 8:wu 9:iwu 10:sz" "D' h' F' N' l'"
theorem walk_reset_F8 {M : Model} {A : Around} {E : Value → Shared → Prop} {s : Shared} {Q : Bool → Shared → Prop} (h : Q true s) : wpAny M A (truthy (.bool true)) Q E s := by first | (walk1; exact h) | exact wpAny_truthy_bool h
section
set_option maxRecDepth 100000
set_option maxHeartbeats 8000000
set_option linter.unusedVariables false
set_option linter.unusedSimpArgs false
open PySem PySem.W PySem.Calls PyProof.Rows
/-- the first place from `a` on where a group stands -/
noncomputable def scanF (G : List It) (l : List Nat) : Nat → Nat → Option Nat
  | 0, _ => none
  | n + 1, a => if gAt G (l.drop a) then some a else scanF G l n (a + 1)
noncomputable def scan (G : List It) (l : List Nat) (a : Nat) : Option Nat := scanF G l (l.length + 1 - a) a
noncomputable def mids : List (List It) → List Nat → Nat → Option Nat
  | [], _, a => some a
  | G :: r, l, a => match scan G l a with
    | none => none
    | some b => mids r l (b + G.length)
/-- what the law says of groups and a name -/
noncomputable def takes (GS : List (List It)) (l : List Nat) : Bool := match GS with
  | [] => false
  | [G] => gAt G l && decide (G.length = l.length)
  | G :: r => gAt G l && (match mids r.dropLast l G.length with
    | none => false
    | some a => decide (a + (r.getLastD []).length ≤ l.length) && gAt (r.getLastD []) (l.drop (l.length - (r.getLastD []).length)))
noncomputable def GrpV (h : Heap) (G : List It) (v : Value) : Prop := ∃ a gs, v = .ref a ∧ h.IsList a (gs : List Value).toArray ∧ All2 ItV G gs
theorem scan_hit {G : List It} {l : List Nat} {a : Nat} (ha : a ≤ l.length) (h : gAt G (l.drop a) = true) : scan G l a = some a := by
  unfold scan
  rw [Nat.succ_sub ha, scanF, if_pos h]
theorem scan_miss {G : List It} {l : List Nat} {a : Nat} (ha : a ≤ l.length) (h : gAt G (l.drop a) = false) : scan G l a = scan G l (a + 1) := by
  unfold scan
  rw [Nat.succ_sub ha, scanF, if_neg (by rw [h]; decide), Nat.add_sub_add_right]
theorem scan_end {G : List It} {l : List Nat} {a : Nat} (ha : l.length < a) : scan G l a = none := by
  unfold scan
  rw [show l.length + 1 - a = 0 from Nat.sub_eq_zero_of_le ha, scanF]
inductive TkJ (hp : Heap) (r0 : List (List It)) (v0 : List Value) (l : List Nat) (a0 : Nat) (t : Tok) (D D' : Addr) (I : Addr) (i : Nat) (m : Str → Option Value) (news : List (Addr × Obj)) : Prop
  | is (x1_ : news = [(D', W.listOf v0.toArray 0)]) (x2_ : D' ≠ I) (a ta : _) (x3_ : m (Str.ofString "at") = some (.int (a : Nat) ta)) (x4_ : a ≤ l.length) (x5_ : mids r0 l a0 = mids (r0.drop i) l a) (x6_ : m (Str.ofString "groups") = some (.ref D)) (x7_ : m (Str.ofString "name") = some (.str (mk l) t)) : TkJ hp r0 v0 l a0 t D D' I i m news
section
variable {prog : Program} {w : World} {A : Around} {E : Value → Shared → Prop} {s : Shared} {Q : Value → Shared → Prop} {mg mb : Str → Option Value} {l k : List Nat} {t u : Tok}
theorem c_at' {P : List It} {G : Addr} {gs : List Value} {a : Nat} {z : Int} {ta : Tok} (hG : s.heap.IsList G gs.toArray) (hg : All2 ItV P gs) (hz : z = (a : Nat)) (W0 : Wd w mg mb s.heap) (hd : A.depth + 1 < recursionLimit) (hh : A.handled = none) (hl : l.length ≤ 1000) (hP : P.length ≤ 1000)
    (hs : It.star ∉ P) (ha : a ≤ l.length)
    (hQ : ∀ h' tk', Ext s.heap h' → Q (.bool (gAt P (l.drop a))) { s with heap := h', toks := tk' }) :
    wpAny (model prog w) A (call (.ref 140) [.ref G, .str (mk l) t, .int z ta]) Q E s := by
  subst hz
  exact c_at W0 hd hh hl hP hG hg hs ha hQ
local macro_rules | `(tactic| walk_at "call ref") => sc "f" ``c_at' 11 11 "1:isl 2:a 3:ra 4:wd 5:deep 6:= 7:len 8:al 9:a 10:len" "h' tk' x'"
theorem c_takes {GS : List (List It)} {D : Addr} {gv : List Value} (W0 : Wd w mg mb s.heap) (hd : A.depth + 2 < recursionLimit) (hh : A.handled = none) (hl : l.length ≤ 1000) (hz : GS.length ≤ 1000) (hz2 : ∀ G ∈ GS, G.length ≤ 1000 ∧ It.star ∉ G) (hne : GS ≠ [])
    (hD : s.heap.IsList D gv.toArray) (hg : All2 (GrpV s.heap) GS gv)
    (hQ : ∀ h' tk', Ext s.heap h' → Q (.bool (takes GS l)) { s with heap := h', toks := tk' }) :
    wpAny (model prog w) A (call (.ref 147) [.ref D, .str (mk l) t]) Q E s := by
  obtain ⟨ah, adp, afr, agd, aun⟩ := A
  dsimp only at hh hd
  subst hh
  obtain ⟨X, ⟨_, _, mean, T⟩, BT⟩ := id W0
  have hd' : adp < recursionLimit := by (first | lia | omega)
  have hgl : gv.toArray.size = GS.length := by rw [List.size_toArray, hg.len]
  obtain ⟨G0, r, rfl⟩ : ∃ G r, GS = G :: r := by cases GS with
    | nil => exact absurd rfl hne
    | cons G r => exact ⟨G, r, rfl⟩
  cases hg with
  | cons hg0 hgr =>
  rename_i v0 vr
  obtain ⟨a0, gs0, rfl, hL0, hA0⟩ := hg0
  have hz0 := hz2 G0 (.head _)
  have hz01 := hz0.1
  have hz02 := hz0.2
  have hgl0 : gs0.toArray.size = G0.length := by rw [List.size_toArray, hA0.len]
  have hi0 : (Value.ref a0 :: vr).toArray[0]? = some (.ref a0) := rfl
  have hvl : vr.length = r.length := hgr.len.symm
  rw [List.length_cons] at hz
  by_cases hr : r = []
  · subst hr
    cases hgr
    k_dflt (refine' enter (binds := [(Str.ofString "groups", .ref D), (Str.ofString "name", .str (mk l) t)]) X T ?k6 ?k7 hd' ?k9 ?kB ?c5 ?c2 ?c3 ?c4 ?_; walk_at "my enter"; intro L h₁ F N; walk_at "my fold")
    walk_at "my steps"
    all_goals (refine endB (hQ _ _ (Fr.keep (by assumption))) ?_)
    all_goals (simp_all [takes])
    all_goals (rw [Bool.eq_iff_iff, decide_eq_true_eq, beq_iff_eq]; (first | lia | omega))
  have hvr : vr ≠ [] := fun e => hr (List.eq_nil_of_length_eq_zero (by rw [← hvl, e]; rfl))
  obtain ⟨GL, r0, hrl⟩ : ∃ GL r0, r = r0 ++ [GL] := by
    rcases List.eq_nil_or_concat r with e | ⟨r0, GL, e⟩
    · exact absurd e hr
    · exact ⟨GL, r0, by rw [e, List.concat_eq_append]⟩
  subst hrl
  obtain ⟨v0, vL, rfl, hg0, aL, gsL, rfl, hLL, hAL⟩ := hgr.unsnoc
  have hbk : (Value.ref a0 :: (v0 ++ [Value.ref aL])).toArray.back? = some (.ref aL) := Li.back_snoc (vs := Value.ref a0 :: v0)
  have hglL : gsL.toArray.size = GL.length := by rw [List.size_toArray, hAL.len]
  have hzL := hz2 GL (by simp)
  have hzL1 := hzL.1
  have hzL2 := hzL.2
  have hlen0 := hg0.len
  rw [List.length_append, List.length_append] at hvl
  rw [List.length_append] at hz
  simp only [List.length_cons, List.length_nil] at hvl hz
  have hsz : (Value.ref a0 :: (v0 ++ [Value.ref aL])).toArray.size = v0.length + 2 := by simp
  have htk : takes (G0 :: (r0 ++ [GL])) l = (gAt G0 l && (match mids r0 l G0.length with
    | none => false
    | some a => decide (a + GL.length ≤ l.length) && gAt GL (l.drop (l.length - GL.length)))) := by
    cases r0 with
    | nil => simp [takes]
    | cons x y =>
      have e1 : ((x :: y) ++ [GL]).dropLast = x :: y := List.dropLast_concat
      have e2 : ((x :: y) ++ [GL]).getLastD [] = GL := by first | exact List.getLastD_concat .. | (rw [List.getLastD_eq_getLast?, List.getLast?_append]; rfl)
      show (gAt G0 l && (match mids ((x :: y) ++ [GL]).dropLast l G0.length with
        | none => false
        | some a => decide (a + (((x :: y) ++ [GL]).getLastD []).length ≤ l.length) && gAt (((x :: y) ++ [GL]).getLastD []) (l.drop (l.length - (((x :: y) ++ [GL]).getLastD []).length)))) = _
      rw [e1, e2]
  k_dflt (refine' enter (binds := [(Str.ofString "groups", .ref D), (Str.ofString "name", .str (mk l) t)]) X T ?k6 ?k7 hd' ?k9 ?kB ?c5 ?c2 ?c3 ?c4 ?_; walk_at "my enter"; intro L h₁ F N; walk_at "my fold")
  cases hk0 : (!gAt G0 (List.drop 0 l)) with
  | true =>
    walk_at "my steps"
    rw [List.drop_zero, Bool.not_eq_true'] at hk0
    rw [hk0, Bool.false_and] at htk
    exact endB (hQ _ _ (Fr.keep (by assumption))) htk
  | false =>
  walk_at "my steps"
  rw [List.drop_zero, Bool.not_eq_false'] at hk0
  rw [hk0, Bool.true_and] at htk
  refine my_for ?_
  walk_at "my steps"
  (rename Fr _ _ _ _ => F8); (rename News _ _ _ _ => N8)
  rw [List.dropLast_concat] at N8
  rename Addr => D7
  have hz0b : G0.length ≤ l.length := by
    rcases Nat.lt_or_ge l.length G0.length with h | h
    · rw [gAt_long h] at hk0; cases hk0
    · exact h
  refine for_list (TkJ s.heap r0 v0 l G0.length t D D7) (Li.led N8 (by k_mem)) F8 N8 rfl rfl rfl (fun I hI => ⟨rfl, Nat.ne_of_lt (hI _ (.head _)), _, _, rfl, by rw [hgl0]; exact hz0b, by rw [hgl0]; rfl, rfl, rfl⟩) (fun I i m news hj q hq => by obtain ⟨rfl, hd, _⟩ := hj; rw [List.mem_singleton.mp hq]; exact hd) (fun I i m news h hj F N => by obtain ⟨rfl, _⟩ := hj; exact Li.led N (.head _)) ?_ ?_
  · rintro I io i v m₁ news₁ h₁ tk₁ hio hv ⟨rfl, hne1, a, ta, mat, hal, hmid, mg, mn⟩ F N
    have hi : i < r0.length := by
      have := (List.getElem?_eq_some_iff.mp hv).1
      rw [← hlen0] at this; exact this
    obtain ⟨v', hv', ag, gsg, hvg, hLg, hAg⟩ := hg0.get (i := i) (a := r0[i]) (by simp [hi])
    rw [hv] at hv'
    obtain rfl := Option.some.inj hv'
    subst hvg
    generalize hG : r0[i] = G at hAg
    have hzg := hz2 G (by rw [← hG]; simp)
    have hzg1 := hzg.1
    have hzg2 := hzg.2
    have hglg : gsg.toArray.size = G.length := by rw [List.size_toArray, hAg.len]
    have hstep : mids (r0.drop i) l a = (match scan G l a with
      | none => none
      | some b => mids (r0.drop (i + 1)) l (b + G.length)) := by
      rw [List.drop_eq_getElem_cons hi, mids, hG]
    walk_at "my steps"
    refine my_while_then (n₀ := l.length + 1 - a) (fun n m news => news = [(I, io), (D7, W.listOf v0.toArray 0)] ∧ ∃ b tb, m (Str.ofString "at") = some (.int (b : Nat) tb) ∧ b ≤ l.length + 1 ∧ n = l.length + 1 - b ∧ scan G l a = scan G l b ∧ m (Str.ofString "groups") = some (.ref D) ∧ m (Str.ofString "name") = some (.str (mk l) t) ∧ m (Str.ofString "group") = some (.ref ag))
      (fun m news => news = [(I, io), (D7, W.listOf v0.toArray 0)] ∧ ∃ b tb, m (Str.ofString "at") = some (.int (b : Nat) tb) ∧ b ≤ l.length + 1 ∧ (l.length < b ∨ gAt G (l.drop b) = true) ∧ scan G l a = scan G l b ∧ m (Str.ofString "groups") = some (.ref D) ∧ m (Str.ofString "name") = some (.str (mk l) t) ∧ m (Str.ofString "group") = some (.ref ag))
      F N ⟨rfl, a, ta, mat, by (first | lia | omega), rfl, rfl, mg, mn, rfl⟩ ?_ ?_
    · rintro n2 m₂ news₂ h₂ tk₂ F N ⟨rfl, b, tb, mb2, hb, hn2, hsc, mg, mn, mgr⟩
      by_cases hbl : b ≤ l.length
      · cases hgb : (!gAt G (l.drop b)) with
        | true =>
          walk_at "my steps"
          (rename Fr _ _ _ _ => Fz); (rename News _ _ _ _ => Nz)
          rw [Bool.not_eq_true'] at hgb
          exact endJ Fz Nz (n' := l.length + 1 - (b + 1)) (by rw [hn2]; exact stepLt hbl) ⟨rfl, b + 1, _, intE (by (first | lia | omega)), by (first | lia | omega), rfl, hsc.trans (scan_miss hbl hgb), mg, mn, mgr⟩
        | false =>
          walk_at "my steps"
          (rename Fr _ _ _ _ => Fz); (rename News _ _ _ _ => Nz)
          rw [Bool.not_eq_false'] at hgb
          exact midE Fz Nz ⟨rfl, b, tb, mb2, hb, .inr hgb, hsc, mg, mn, mgr⟩
      · walk_at "my steps"
        (rename Fr _ _ _ _ => Fz); (rename News _ _ _ _ => Nz)
        exact midE Fz Nz ⟨rfl, b, tb, mb2, hb, .inl (by (first | lia | omega)), hsc, mg, mn, mgr⟩
    · rintro m₂ news₂ h₂ tk₂ F N ⟨rfl, b, tb, mb2, hb, hex, hsc, mg, mn, mgr⟩
      by_cases hbl : b ≤ l.length
      · have hgb : gAt G (l.drop b) = true := by rcases hex with h | h
                                                 · (first | lia | omega)
                                                 · exact h
        have hbG : b + G.length ≤ l.length := by
          rcases Nat.lt_or_ge (l.drop b).length G.length with h | h
          · rw [gAt_long h] at hgb; cases hgb
          · rw [List.length_drop] at h; (first | lia | omega)
        walk_at "my steps"
        (rename Fr _ _ _ _ => Fz); (rename News _ _ _ _ => Nz)
        exact endF Fz Nz ⟨rfl, hne1, b + gsg.toArray.size, _, intE (by (first | lia | omega)), by (first | lia | omega), by rw [hmid, hstep, hsc, scan_hit hbl hgb, hglg], mg, mn⟩
      · rw [hsc, scan_end (by (first | lia | omega))] at hstep
        rw [hmid.trans hstep] at htk
        walk_at "my steps"
        (try unfold ForStep)
        (try dsimp only)
        walk_at "my steps"
        try dsimp only
        exact endB (hQ _ _ (Fr.keep (by assumption))) htk
  · rintro I m₁ news₁ h₁ tk₁ ⟨rfl, hne1, a, ta, mat, hal, hmid, mg, mn⟩ F N
    rw [← hlen0, List.drop_length, mids] at hmid
    rw [hmid] at htk
    dsimp only at htk
    by_cases hal2 : a + GL.length ≤ l.length
    · have hrest : ((l.length : Int) - gsL.toArray.size) = ((l.length - GL.length : Nat) : Int) := by (first | lia | omega)
      have hge : l.length - GL.length ≤ l.length := Nat.sub_le _ _
      rw [decide_eq_true hal2, Bool.true_and] at htk
      walk_at "my steps"
      exact endB (hQ _ _ (Fr.keep (by assumption))) htk
    · rw [decide_eq_false hal2, Bool.false_and] at htk
      walk_at "my steps"
      exact endB (hQ _ _ (Fr.keep (by assumption))) (htk.trans (decide_eq_false (by (first | lia | omega))).symm)
end
end
section
set_option Elab.async false
set_option maxRecDepth 100000
set_option maxHeartbeats 2000000
open PySem PySem.W PySem.Calls PySem.Builtin PyProof.Rows
section
variable {prog : Program} {w : World} {A : Around} {E : Value → Shared → Prop} {s : Shared} {Q : Value → Shared → Prop} {h₀ : Heap} {L : Addr} {m : PySem.Str → Option Value} {news : List (Addr × Obj)}
theorem r_append {a : Addr} {its : Array Value} {n : Nat} {v : Value} (F : Fr h₀ L s.heap m) (N : News h₀ L s.heap news) (hm : (a, W.listOf its n) ∈ news) (hz : its.size ≤ 100000)
    (h : ∀ h' n', Fr h₀ L h' m → (∀ news', (∀ p ∈ news', p = (a, W.listOf (its.push v) n') ∨ (p ∈ news ∧ p.1 ≠ a)) → News h₀ L h' news') → Q .none { s with heap := h' }) :
    wpAny (model prog w) A (call (.builtin "list.append") [.ref a, v]) Q E s := by
  have ha := N _ hm
  refine wpAny_list_append_plain ⟨n, ha.1⟩ (fun h' hp hs => ?_) (Nat.le_trans hz szl)
  obtain ⟨n', hn'⟩ := hp
  refine h h' n' ⟨F.ns.extBut hs.extBut ha.2.1.symm, fun b o e => (hs.2 b fun q => by rw [q, ha.2.2] at e; cases e).trans (F.keep b o e), F.above⟩ fun news' hs' p hp => ?_
  rcases hs' p hp with rfl | ⟨h1, h2⟩
  · exact ⟨hn', ha.2⟩
  · exact ⟨(hs.2 p.1 h2).trans (N p h1).1, (N p h1).2⟩
end
theorem keepAdd {g₀ h h' : Heap} {L : Addr} {m : PySem.Str → Option Value} {news : List (Addr × Obj)} {r : Addr} {o : Obj} (F : Fr g₀ L h m) (N : News g₀ L h news) (x : Ext h h') (hr : h'.get? r = some o) (hf : h.get? r = none) :
    Fr g₀ L h' m ∧ News g₀ L h' ((r, o) :: news) ∧ ∀ q ∈ news, q.1 ≠ r :=
  ⟨F.keeps x, newsAdd F (N.grown x) hr hf, fun q hq e => by have := (N q hq).1; rw [e, hf] at this; cases this⟩
theorem newsPut {a : Addr} {o o' : Obj} {x y : List (Addr × Obj)} (nd : ((x ++ (a, o) :: y).map (·.1)).Nodup) : ∀ p ∈ x ++ (a, o') :: y, p = (a, o') ∨ (p ∈ x ++ (a, o) :: y ∧ p.1 ≠ a) := fun p hp => by
  rw [List.map_append, List.map_cons, List.nodup_append] at nd
  obtain ⟨_, n2, n3⟩ := nd
  rcases List.mem_append.mp hp with h | h
  · exact .inr ⟨List.mem_append.mpr (.inl h), n3 _ (List.mem_map_of_mem h) _ (.head _)⟩
  · rcases List.mem_cons.mp h with h | h
    · exact .inl h
    · refine .inr ⟨List.mem_append.mpr (.inr (.tail _ h)), fun e => (List.nodup_cons.mp n2).1 ?_⟩
      exact List.mem_map.mpr ⟨p, h, e⟩
/-- the groups between the stars -/
noncomputable def grp : List It → List (List It)
  | [] => [[]]
  | i :: r => if i = .star then [] :: grp r else match grp r with
    | [] => [[i]]
    | g :: gs => (i :: g) :: gs
theorem grp_ne (P : List It) : grp P ≠ [] := by
  cases P with
  | nil => simp [grp]
  | cons i r =>
    rw [grp]
    split
    · simp
    · split <;> simp
theorem grp_star (P : List It) : grp (P ++ [It.star]) = grp P ++ [[]] := by
  induction P with
  | nil => simp [grp]
  | cons i r ih =>
    rw [List.cons_append, grp, grp, ih]
    split
    · rfl
    · cases hg : grp r with
      | nil => exact absurd hg (grp_ne r)
      | cons g gs => rfl
theorem grp_snoc {P : List It} {i : It} (hi : i ≠ .star) : ∀ {a : List (List It)} {g : List It}, grp P = a ++ [g] → grp (P ++ [i]) = a ++ [g ++ [i]] := by
  induction P with
  | nil =>
    intro a g h
    have : a = [] ∧ g = [] := by
      cases a with
      | nil => simp [grp] at h; exact ⟨rfl, h⟩
      | cons x y => simp [grp] at h
    obtain ⟨rfl, rfl⟩ := this
    simp [grp, hi]
  | cons j r ih =>
    intro a g h
    rw [List.cons_append, grp]
    rw [grp] at h
    by_cases hj : j = .star
    · rw [if_pos hj] at h ⊢
      cases a with
      | nil =>
        simp at h
        exact absurd h.2 (grp_ne r)
      | cons x y =>
        simp at h
        rw [ih h.2, h.1]; rfl
    · rw [if_neg hj] at h ⊢
      cases hg : grp r with
      | nil => exact absurd hg (grp_ne r)
      | cons g0 gs =>
        rw [hg] at h
        dsimp only at h
        cases a with
        | nil =>
          simp at h
          have := ih (a := []) (g := g0) (by rw [hg, h.2]; rfl)
          rw [this, ← h.1]; rfl
        | cons x y =>
          simp at h
          have := ih (a := g0 :: y) (g := g) (by rw [hg, h.2]; rfl)
          rw [this, ← h.1]; rfl
theorem grp_mem {P : List It} : ∀ G ∈ grp P, G.length ≤ P.length ∧ It.star ∉ G := by
  induction P with
  | nil => intro G hG; simp [grp] at hG; subst hG; simp
  | cons i r ih =>
    intro G hG
    rw [grp] at hG
    by_cases hi : i = .star
    · rw [if_pos hi] at hG
      rcases List.mem_cons.mp hG with rfl | h
      · simp
      · have := ih G h
        exact ⟨by rw [List.length_cons]; (first | lia | omega), this.2⟩
    · rw [if_neg hi] at hG
      cases hg : grp r with
      | nil => exact absurd hg (grp_ne r)
      | cons g gs =>
        rw [hg] at hG ih
        dsimp only at hG
        rcases List.mem_cons.mp hG with rfl | h
        · have := ih g (.head _)
          refine ⟨by rw [List.length_cons, List.length_cons]; (first | lia | omega), fun e => ?_⟩
          rcases List.mem_cons.mp e with e | e
          · exact hi e.symm
          · exact this.2 e
        · have := ih G (.tail _ h)
          exact ⟨by rw [List.length_cons]; (first | lia | omega), this.2⟩
theorem grp_len (P : List It) : (grp P).length ≤ P.length + 1 := by
  induction P with
  | nil => simp [grp]
  | cons i r ih =>
    rw [grp]
    split
    · simp; (first | lia | omega)
    · cases hg : grp r with
      | nil => exact absurd hg (grp_ne r)
      | cons g gs => rw [hg] at ih; simp at ih ⊢; (first | lia | omega)
theorem snoc_of {α : Type} {l : List α} (h : l ≠ []) : ∃ a x, l = a ++ [x] := by
  rcases List.eq_nil_or_concat l with e | ⟨a, x, e⟩
  · exact absurd e h
  · exact ⟨a, x, by rw [e, List.concat_eq_append]⟩

end
section
set_option Elab.async false
set_option maxRecDepth 100000
set_option maxHeartbeats 2000000
open PySem PySem.W PySem.Calls PySem.Builtin PyProof.Rows
noncomputable abbrev NoE : Value → Shared → Prop := fun _ _ => False
theorem off_false {M : Model} {A : Around} {α : Type} {t : Sem α} {Q : α → Shared → Prop} {E : Value → Shared → Prop} {s : Shared} (h : wpAny M A t Q NoE s) : wpAny M A t Q E s := wpAny_mono h (fun _ _ q => q) fun _ _ e => e.elim
section
variable {prog : Program} {w : World} {A : Around} {R : Result → Shared → Prop} {s : Shared}
noncomputable abbrev testsOf (ifs : List PySem.Expr) (env : Env) : Sem Bool := forIn ifs true fun c r => if r = true then do let ok ← isTrue c env (eval c env); pure (ForInStep.yield ok) else pure (ForInStep.yield r)
theorem my_compLoop {elt target iter : PySem.Expr} {ifs : List PySem.Expr} {scope : Scope} {pos : Pos} {it acc : Value} {env : Env} (I : Nat → Shared → Prop)
    (turn : ∀ n s, I n s → wpAny (model prog w) A (pyNext it) (fun r s₁ => match r with
      | none => R (.ok .next) s₁
      | some v => wpAny (model prog w) A (letOwnedTupleGo target it v) (fun _ s₁' => wpAny (model prog w) A (assign target env v) (fun _ s₂ =>
          wpAny (model prog w) A (testsOf ifs env) (fun ok s₃ =>
            if ok = true then wpAny (model prog w) A (eval elt env) (fun x s₄ =>
              wpAny (model prog w) A (call (.builtin "list.append") [acc, x]) (fun _ s₅ => ∃ m, m < n ∧ I m s₅) NoE s₄) NoE s₃
            else ∃ m, m < n ∧ I m s₃) NoE s₂) NoE s₁') NoE s₁) NoE s)
    (n : Nat) (h : I n s) :
    codeAny (model prog w) A (.compLoop (.ListComp elt [⟨target, iter, ifs, 0⟩] scope pos) 0 it acc env) R s := by
  refine codeAny_loop rfl I (fun n s hI => ?_) n h
  show wpAny _ A ((compTurn (.ListComp elt [⟨target, iter, ifs, 0⟩] scope pos) 0 it acc env).onRaise (fun x => do noteFrame x env; theTreesLotGoes x)) _ _ s
  refine wpAny_noted ?_
  rw [compTurn_list]
  refine wpAny_bind (wpAny_standAt (wpAny_bind (wpAny_mono (turn n s hI) (fun r s₁ h₁ => ?_) fun _ _ h' => h'.elim)))
  cases r with
  | none => exact wpAny_pure h₁
  | some v =>
    refine wpAny_bind (wpAny_mono h₁ (fun _ s₁' h₁' => ?_) fun _ _ h' => h'.elim)
    refine wpAny_bind (wpAny_mono h₁' (fun _ s₂ h₂ => wpAny_bind (wpAny_mono h₂ (fun ok s₃ h₃ => ?_) fun _ _ h' => h'.elim)) fun _ _ h' => h'.elim)
    cases ok with
    | false => exact wpAny_pure ⟨rfl, h₃⟩
    | true =>
      exact wpAny_bind (wpAny_bind (wpAny_mono h₃ (fun x s₄ h₄ => wpAny_bind (wpAny_mono h₄ (fun _ s₅ h₅ => wpAny_pure (wpAny_pure ⟨rfl, h₅⟩)) fun _ _ h' => h'.elim)) fun _ _ h' => h'.elim))
end

/-- how an iterator is driven into a frame -/
structure Turns (prog : Program) (w : World) (A : Around) (tg : PySem.Expr) (cenv : Env) (I : Addr) (fp wr : List Addr) (n : Nat) (Bd : Nat → (PySem.Str → Option Value) → Prop) (St : Nat → Heap → Prop) : Prop where
  sub : ∀ b ∈ wr, b ∈ fp
  own : ∀ i h, St i h → ∀ b ∈ wr, ∃ o, h.get? b = some o
  frame : ∀ i h h', St i h → (∀ b ∈ fp, ∀ o, h.get? b = some o → h'.get? b = some o) → St i h'
  item : ∀ i (s : Shared) m (Q : Shared → Prop), i < n → St i s.heap → s.heap.Ns cenv.locals m → cenv.locals ∉ fp →
    (∀ h' m' tk, h'.Ns cenv.locals m' → Bd i m' → St (i + 1) h' → (∀ b o, b ≠ cenv.locals → b ∉ wr → s.heap.get? b = some o → h'.get? b = some o) → Q { s with heap := h', toks := tk }) →
    wpAny (model prog w) A (pyNext (.ref I)) (fun r s₁ => match r with
      | none => False
      | some v => wpAny (model prog w) A (letOwnedTupleGo tg (.ref I) v) (fun _ s₂ => wpAny (model prog w) A (assign tg cenv v) (fun _ s₃ => Q s₃) NoE s₂) NoE s₁) NoE s
  done : ∀ (s : Shared) (Q : Option Value → Shared → Prop), St n s.heap →
    (∀ h' tk, (∀ b o, b ∉ wr → s.heap.get? b = some o → h'.get? b = some o) → Q none { s with heap := h', toks := tk }) → wpAny (model prog w) A (pyNext (.ref I)) Q NoE s
  self : ∀ i (s : Shared) (Q : Value → Shared → Prop) (E : Value → Shared → Prop), St i s.heap → Q (.ref I) s → wpAny (model prog w) A (pyIter (.ref I)) Q E s
theorem Turns.name {prog : Program} {w : World} {A : Around} {cenv : Env} {I : Addr} {fp wr : List Addr} {n : Nat} {P : Nat → Value → Prop} {St : Nat → Heap → Prop} {x : PySem.Str} {px : Pos} (W : Walks prog w A I fp wr n P St)
    (own : ∀ i h, St i h → ∀ b ∈ wr, ∃ o, h.get? b = some o)
    (hx : cenv.kindOf x = some .local) (hp : (cenv.scope.kind == .class || (cenv.scope.kind == .module && cenv.locals != cenv.globals)) = false) :
    Turns prog w A (.Name x px) cenv I fp wr n (fun i m => ∃ v, P i v ∧ m x = some v) St where
  sub := W.sub
  own := own
  frame := W.frame
  item := fun i s m Q hi hst hn hC hQ => W.item i s _ _ hi hst fun v h' tk hP hst' hk => by
    dsimp only
    refine wpAny_of_eq (show letOwnedTupleGo (.Name x px) (.ref I) v = pure () from rfl) ?_
    have hCw : cenv.locals ∉ wr := fun q => hC (W.sub _ q)
    refine wpAny_assign_Name (wpAny_storeName_local hx (hn.at' fun o e => hk _ o hCw e) (fun h₂ hn₂ hs₂ => ?_) hp)
    exact hQ h₂ _ _ hn₂ ⟨v, hP, by simp⟩ (W.frame _ _ _ hst' fun b hb o e => hs₂.extBut b o (fun q => hC (by have q' : b = cenv.locals := q; rw [← q']; exact hb)) e) fun b o hbC hbw e => hs₂.extBut b o hbC (hk b o hbw e)
  done := fun s Q hst hQ => W.done s _ _ hst hQ
  self := W.self

/-- what stands behind a turn of a comprehension -/
inductive LcEndI (h₀ : Heap) (C : Addr) (f : Heap → Nat → Shared) (led : List (Addr × Obj)) (R : Prop) (s' : Shared) : Prop
  | is (h' : Heap) (tk : Nat) (m' : PySem.Str → Option Value) (e : s' = f h' tk) (F : Fr h₀ C h' m') (N : News h₀ C h' led) (r : R) : LcEndI h₀ C f led R s'
noncomputable def LcEnd (h₀ : Heap) (C : Addr) (s : Shared) (led : List (Addr × Obj)) (R : Prop) (s' : Shared) : Prop := LcEndI h₀ C (fun h tk => { s with heap := h, toks := tk }) led R s'
inductive LcInv (h₀ : Heap) (C D lo : Addr) (oL0 : Obj) (news : List (Addr × Obj)) (s : Shared) (n : Nat) (St : Nat → Heap → Prop) (J : Nat → List Value → Prop) (k : Nat) (s' : Shared) : Prop
  | is (h' : Heap) (tk i : Nat) (ys : List Value) (mc : PySem.Str → Option Value) (kk : Nat) (e : s' = { s with heap := h', toks := tk }) (hi : i ≤ n) (hk : k = n + 1 - i) (st : St i h') (ns : h'.Ns C mc) (kp : ∀ b o, h₀.get? b = some o → h'.get? b = some o) (hD : h'.get? D = some (W.listOf ys.toArray kk)) (hL : h'.get? lo = some oL0) (hN : ∀ p ∈ news, h'.get? p.1 = some p.2) (j : J i ys) : LcInv h₀ C D lo oL0 news s n St J k s'
theorem endC {h₀ : Heap} {C : Addr} {s : Shared} {led : List (Addr × Obj)} {R : Prop} {h' : Heap} {tk : Nat} {m' : PySem.Str → Option Value} (F : Fr h₀ C h' m') (N : News h₀ C h' led) (hR : R) : LcEnd h₀ C s led R { s with heap := h', toks := tk } := ⟨h', tk, m', rfl, F, N, hR⟩

section
variable {prog : Program} {w : World} {A : Around} {E : Value → Shared → Prop} {s : Shared} {h₀ : Heap} {m : PySem.Str → Option Value} {env : Env}
noncomputable def LcTurn (prog : Program) (w : World) (A : Around) (h₀ : Heap) (env : Env) (elt : PySem.Expr) (ifs : List PySem.Expr) (scope : Scope) (cl : List (PySem.Str × Addr)) (s : Shared) (wr : List Addr) (news : List (Addr × Obj)) (n : Nat) (Bd : Nat → (PySem.Str → Option Value) → Prop) (J : Nat → List Value → Prop) : Prop :=
  ∀ C D oL wl i ys k mc h tk, i < n → Bd i mc → J i ys → wl.map (·.1) = wr → Fr h₀ C h mc → News h₀ C h (wl ++ (D, W.listOf ys.toArray k) :: (env.locals, oL) :: news) →
    wpAny (model prog w) A (testsOf ifs (compEnvC scope cl C env)) (fun ok s₃ =>
      if ok = true then wpAny (model prog w) A (eval elt (compEnvC scope cl C env)) (fun y s₄ => LcEnd h₀ C s (wl ++ (D, W.listOf ys.toArray k) :: (env.locals, oL) :: news) (J (i + 1) (ys ++ [y])) s₄) NoE s₃
      else LcEnd h₀ C s (wl ++ (D, W.listOf ys.toArray k) :: (env.locals, oL) :: news) (J (i + 1) ys) s₃) NoE { s with heap := h, toks := tk }
theorem newsMem {g h : Heap} {L : Addr} {a : Addr} {l : List (Addr × Obj)} (N : News g L h l) (ha : a ∈ l.map (·.1)) : (∃ o, h.get? a = some o) ∧ a ≠ L ∧ g.get? a = none := by
  obtain ⟨p, hp, rfl⟩ := List.mem_map.mp ha
  exact ⟨⟨_, (N p hp).1⟩, (N p hp).2⟩
/-- objects chosen for a row of addresses -/
theorem pickObjs {h : Heap} : ∀ {wr : List Addr}, (∀ b ∈ wr, ∃ o, h.get? b = some o) → ∃ wl : List (Addr × Obj), wl.map (·.1) = wr ∧ ∀ p ∈ wl, h.get? p.1 = some p.2
  | [], _ => ⟨[], rfl, fun _ hp => nomatch hp⟩
  | b :: r, H => by
    obtain ⟨o, ho⟩ := H b (.head _)
    obtain ⟨wl, h1, h2⟩ := pickObjs (wr := r) fun c hc => H c (.tail _ hc)
    exact ⟨(b, o) :: wl, by rw [List.map_cons, h1], fun p hp => by
      rcases List.mem_cons.mp hp with rfl | hp
      · exact ho
      · exact h2 p hp⟩
theorem my_block {elt iter tg : PySem.Expr} {ifs : List PySem.Expr} {scope : Scope} {cl : List (PySem.Str × Addr)} {pos : Pos} {I : Addr} {fp wr : List Addr} {n : Nat} {Bd : Nat → (PySem.Str → Option Value) → Prop} {St : Nat → Heap → Prop} {news wl0 : List (Addr × Obj)} {J : Nat → List Value → Prop} {RR : Value → Addr → Result → Shared → Prop}
    (WT : ∀ C, Turns prog w A tg (compEnvC scope cl C env) I fp wr n Bd St) (hsz : n ≤ 100000)
    (hcell : ∀ y ∈ scope.names, y.2 ≠ .cell) (hkind : scope.kind = .function) (hst : St 0 s.heap)
    (F : Fr h₀ env.locals s.heap m) (N : News h₀ env.locals s.heap (wl0 ++ news)) (hwl : wl0.map (·.1) = wr) (off : ∀ p ∈ news, p.1 ∉ wr)
    (hfp : ∀ b ∈ fp, b ∈ wr ∨ (∃ o, h₀.get? b = some o) ∨ b ∈ news.map (·.1))
    (hJ0 : J 0 []) (hJl : ∀ i ys, J i ys → ys.length ≤ i)
    (turn : LcTurn prog w A h₀ env elt ifs scope cl s wr news n Bd J)
    (hRR : ∀ D C h tk mc ys k, Fr h₀ env.locals h m → News h₀ env.locals h ((D, W.listOf ys.toArray k) :: news) → (∀ p ∈ news, p.1 ≠ D) → h.Ns C mc → C ≠ D → C ≠ env.locals → (∀ p ∈ news, p.1 ≠ C) → h₀.get? C = none → J n ys → RR (.ref D) C (.ok .next) { s with heap := h, toks := tk }) :
    wpAny (model prog w) A (newList []) (fun acc s₃ => wpAny (model prog w) A (newFunctionEnv scope env.globals cl [] env.qual none .none (some env)) (fun cenv s₄ =>
      codeAny (model prog w) A (.compStart (.ListComp elt [⟨tg, iter, ifs, 0⟩] scope pos) 0 (.ref I) acc { cenv with scope := relabel scope env }) (RR acc cenv.locals) s₄) E s₃) E s := by
  refine wpAny_newObj_type (wpAny_newFunctionEnv hcell (by intro y hy; simp at hy) (fun h₁ hns₁ hsb₁ => ?_) hkind)
  dsimp only at hns₁ hsb₁ ⊢
  generalize hH2 : s.heap.push { cls := .type "list", dict := none, data := .seq ([] : List Value).toArray } = H2 at hns₁ hsb₁ ⊢
  generalize hD : s.heap.objs.size = D at *
  have hC : H2.objs.size = D + 1 := by rw [← hH2, Heap.size_push, hD]
  generalize hCC : H2.objs.size = C at *
  have hDC : D ≠ C := by (first | lia | omega)
  have below : ∀ b, b < D → b ≠ C ∧ b ≠ D := fun b hb => ⟨by (first | lia | omega), by (first | lia | omega)⟩
  have ltD : ∀ b o, s.heap.get? b = some o → b < D := fun b o e => hD ▸ Heap.lt_size e
  have old : ∀ b o, s.heap.get? b = some o → h₁.get? b = some o := fun b o e => hsb₁.extBut b o (below b (ltD b o e)).1 (Heap.get?_push_of_some _ (by rw [← hH2]; exact Heap.get?_push_of_some _ e))
  have hacc : h₁.get? D = some (W.listOf ([] : List Value).toArray 0) := hsb₁.extBut _ _ hDC (Heap.get?_push_of_some _ (by rw [← hH2, ← hD]; exact Heap.get?_push_size _ rfl))
  have fresh : ∀ a, D ≤ a → s.heap.get? a = none := fun a ha => by
    cases e : s.heap.get? a with
    | none => rfl
    | some o' => exact absurd (ltD _ _ e) (Nat.not_lt.mpr ha)
  have fresh₀ : ∀ a, D ≤ a → h₀.get? a = none := fun a ha => by
    cases e : h₀.get? a with
    | none => rfl
    | some o' => have := F.keep a o' e; rw [fresh a ha] at this; cases this
  have hLlt : env.locals < D := hD ▸ F.ns.lt
  obtain ⟨oL0, hoL0, hNoL0⟩ := LCg.ns_obj F.ns
  have hwrlt : ∀ b ∈ wr, b < D := fun b hb => by
    have : b ∈ (wl0 ++ news).map (·.1) := by rw [List.map_append, hwl]; exact List.mem_append.mpr (.inl hb)
    obtain ⟨⟨o, e⟩, _⟩ := newsMem N this
    exact ltD _ _ e
  have hwr0 : ∀ b ∈ wr, h₀.get? b = none ∧ b ≠ env.locals := fun b hb => by
    have : b ∈ (wl0 ++ news).map (·.1) := by rw [List.map_append, hwl]; exact List.mem_append.mpr (.inl hb)
    exact ⟨(newsMem N this).2.2, (newsMem N this).2.1⟩
  have hnlt : ∀ p ∈ news, p.1 < D := fun p hp => ltD _ _ (N p (List.mem_append.mpr (.inr hp))).1
  have hflt : ∀ b ∈ fp, b < D := fun b hb => by
    rcases hfp b hb with h | ⟨o, h⟩ | h
    · exact hwrlt b h
    · exact ltD _ _ (F.keep _ _ h)
    · obtain ⟨p, hp, rfl⟩ := List.mem_map.mp h
      exact hnlt p hp
  have hCf : C ∉ fp := fun h => by have q : @LT.lt Nat _ C D := hflt _ h; (first | lia | omega)
  have hDf : D ∉ fp := fun h => Nat.lt_irrefl _ (hflt _ h)
  have hCw : C ∉ wr := fun h => hCf ((WT C).sub _ h)
  have hDw : D ∉ wr := fun h => hDf ((WT C).sub _ h)
  have habove : h₀.objs.size ≤ C := by have q : @LE.le Nat _ h₀.objs.size env.locals := F.above; have q2 : @LT.lt Nat _ env.locals D := hLlt; (first | lia | omega)
  have hL0 : h₀.get? env.locals = none := by
    cases e : h₀.get? env.locals with
    | none => rfl
    | some o => exact absurd (Heap.lt_size e) (Nat.not_lt.mpr F.above)
  have hst₁ : St 0 h₁ := (WT C).frame _ _ _ hst fun b _ o e => old b o e
  have hLw : env.locals ∉ wr := fun h => (hwr0 _ h).2 rfl
  -- what must stand to keep the iterator's state
  have keepSt : ∀ i ha hb (wl : List (Addr × Obj)), wl.map (·.1) = wr → St i ha → (∀ p ∈ wl, ha.get? p.1 = some p.2) → (∀ p ∈ news, ha.get? p.1 = some p.2) → (∀ b o, h₀.get? b = some o → ha.get? b = some o) → (∀ p ∈ wl, hb.get? p.1 = some p.2) → (∀ p ∈ news, hb.get? p.1 = some p.2) → (∀ b o, h₀.get? b = some o → hb.get? b = some o) → St i hb := fun i ha hb wl hwl hst a1 a2 a3 b1 b2 b3 =>
    (WT C).frame _ _ _ hst fun b hbf o e => by
      rcases hfp b hbf with h | ⟨o', h⟩ | h
      · rw [← hwl] at h
        obtain ⟨p, hp, rfl⟩ := List.mem_map.mp h
        rw [a1 p hp] at e; rw [b1 p hp]; exact e
      · rw [a3 _ _ h] at e; rw [b3 _ _ h]; exact e
      · obtain ⟨p, hp, rfl⟩ := List.mem_map.mp h
        rw [a2 p hp] at e; rw [b2 p hp]; exact e
  have loop : ∀ s₃ : Shared, s₃ = { s with heap := h₁, toks := s.toks + ([] : List (PySem.Str × Value)).length } →
      codeAny (model prog w) A (.compLoop (.ListComp elt [⟨tg, iter, ifs, 0⟩] scope pos) 0 (.ref I) (.ref D) (compEnvC scope cl C env)) (RR (.ref D) C) s₃ := by
    rintro s₃ rfl
    let Inv : Nat → Shared → Prop := LcInv h₀ C D env.locals oL0 news s n St J
    refine my_compLoop Inv ?_ (n + 1)
      ⟨h₁, _, 0, [], _, 0, rfl, Nat.zero_le _, rfl, hst₁, hns₁, fun b o e => old b o (F.keep b o e), hacc, old _ _ hoL0, fun p hp => old _ _ (N p (List.mem_append.mpr (.inr hp))).1, hJ0⟩
    rintro k s' ⟨h', tk, i, ys, mc, kk, rfl, hi, rfl, hst', hn', hk', hD', hL', hN', hJ'⟩
    by_cases hlt : i < n
    · refine wpAny_mono ((WT C).item i _ mc (fun s₃ => wpAny (model prog w) A (testsOf ifs (compEnvC scope cl C env)) (fun ok s₃ =>
            if ok = true then wpAny (model prog w) A (eval elt (compEnvC scope cl C env)) (fun x s₄ =>
              wpAny (model prog w) A (call (.builtin "list.append") [.ref D, x]) (fun _ s₅ => ∃ m, m < n + 1 - i ∧ Inv m s₅) NoE s₄) NoE s₃
            else ∃ m, m < n + 1 - i ∧ Inv m s₃) NoE s₃) hlt hst' hn' hCf fun h₂ m₂ tk₂ hn₂ hb₂ hst₂ hk₂ => ?_) (fun r s₁ hr => ?_) fun _ _ e => e
      · obtain ⟨wl, hwl2, hwo⟩ := pickObjs ((WT C).own _ _ hst₂)
        have k2 : ∀ b o, b < D → b ∉ wr → h'.get? b = some o → h₂.get? b = some o := fun b o hb hw e => hk₂ b o (below b hb).1 hw e
        have hD₂ : h₂.get? D = some (W.listOf ys.toArray kk) := hk₂ _ _ hDC hDw hD'
        have hL₂ := k2 _ _ hLlt hLw hL'
        have hN₂ : ∀ p ∈ news, h₂.get? p.1 = some p.2 := fun p hp => k2 _ _ (hnlt p hp) (off p hp) (hN' p hp)
        have hg₂ : ∀ b o, h₀.get? b = some o → h₂.get? b = some o := fun b o e => k2 _ _ (Nat.lt_of_lt_of_le (Heap.lt_size e) (Nat.le_trans F.above (Nat.le_of_lt hLlt))) (fun h => by rw [(hwr0 _ h).1] at e; cases e) (hk' b o e)
        have F₂ : Fr h₀ C h₂ m₂ := ⟨hn₂, hg₂, habove⟩
        have N₂ : News h₀ C h₂ (wl ++ (D, W.listOf ys.toArray kk) :: (env.locals, oL0) :: news) := fun p hp => by
          rcases List.mem_append.mp hp with hp | hp
          · have hb : p.1 ∈ wr := by rw [← hwl2]; exact List.mem_map_of_mem hp
            exact ⟨hwo p hp, fun q => hCw (q ▸ hb), (hwr0 _ hb).1⟩
          · rcases List.mem_cons.mp hp with rfl | hp
            · exact ⟨hD₂, hDC, fresh₀ _ (Nat.le_refl _)⟩
            · rcases List.mem_cons.mp hp with rfl | hp
              · exact ⟨hL₂, (below _ hLlt).1, hL0⟩
              · exact ⟨hN₂ p hp, (below _ (hnlt p hp)).1, (N p (List.mem_append.mpr (.inr hp))).2.2⟩
        have back : ∀ {h₃ : Heap} {m₃ : PySem.Str → Option Value}, Fr h₀ C h₃ m₃ → News h₀ C h₃ (wl ++ (D, W.listOf ys.toArray kk) :: (env.locals, oL0) :: news) → St (i + 1) h₃ := fun F₃ N₃ =>
          keepSt _ h₂ _ wl hwl2 hst₂ hwo hN₂ hg₂ (fun p hp => (N₃ p (List.mem_append.mpr (.inl hp))).1) (fun p hp => (N₃ p (List.mem_append.mpr (.inr (.tail _ (.tail _ hp))))).1) F₃.keep
        refine wpAny_mono (turn C D oL0 wl i ys kk m₂ h₂ tk₂ hlt hb₂ hJ' hwl2 F₂ N₂) (fun ok s₃ h₃ => ?_) fun _ _ e => e
        cases ok with
        | true =>
          refine wpAny_mono h₃ (fun y s₄ h₄ => ?_) fun _ _ e => e
          obtain ⟨h₄, tk₄, m₄, rfl, F₄, N₄, hJ₄⟩ := h₄
          have zD := (N₄ (D, W.listOf ys.toArray kk) (List.mem_append.mpr (.inr (.head _)))).1
          have hzs : ys.toArray.size ≤ 100000 := by have := hJl _ _ hJ'; rw [List.size_toArray]; (first | lia | omega)
          refine wpAny_list_append_plain ⟨kk, zD⟩ (fun h₅ hp hs => ?_) (Nat.le_trans hzs szl)
          obtain ⟨k₅, hD₅⟩ := hp
          have k5 : ∀ b o, b ≠ D → h₄.get? b = some o → h₅.get? b = some o := fun b o hb e => hs.extBut b o hb e
          refine ⟨n + 1 - (i + 1), stepLt (Nat.le_of_lt (by assumption)), h₅, tk₄, i + 1, ys ++ [y], m₄, k₅, rfl, hlt, rfl, (WT C).frame _ _ _ (back F₄ N₄) (fun b hb o e => k5 b o (fun q => hDf (q ▸ hb)) e), F₄.ns.sameBut hs (Ne.symm hDC), fun b o e => k5 b o (fun q => by rw [q, fresh₀ _ (Nat.le_refl _)] at e; cases e) (F₄.keep b o e), ?_, k5 _ _ (below _ hLlt).2 (N₄ _ (List.mem_append.mpr (.inr (.tail _ (.head _))))).1, fun p hp => k5 _ _ (below _ (hnlt p hp)).2 (N₄ p (List.mem_append.mpr (.inr (.tail _ (.tail _ hp))))).1, hJ₄⟩
          rw [hD₅, List.push_toArray]
        | false =>
          obtain ⟨h₄, tk₄, m₄, rfl, F₄, N₄, hJ₄⟩ := h₃
          exact ⟨n + 1 - (i + 1), stepLt (Nat.le_of_lt (by assumption)), h₄, tk₄, i + 1, ys, m₄, kk, rfl, hlt, rfl, back F₄ N₄, F₄.ns, F₄.keep, (N₄ (D, W.listOf ys.toArray kk) (List.mem_append.mpr (.inr (.head _)))).1, (N₄ _ (List.mem_append.mpr (.inr (.tail _ (.head _))))).1, fun p hp => (N₄ p (List.mem_append.mpr (.inr (.tail _ (.tail _ hp))))).1, hJ₄⟩
      · cases r with
        | none => exact hr.elim
        | some v => exact hr
    · have hin : i = n := by (first | lia | omega)
      subst hin
      refine (WT C).done _ _ hst' fun h₂ tk₂ hk₂ => ?_
      have k2 : ∀ b o, b ∉ wr → h'.get? b = some o → h₂.get? b = some o := hk₂
      refine hRR D C h₂ tk₂ mc ys kk ⟨hNoL0.ns (k2 _ _ hLw hL'), fun b o e => k2 b o (fun h => by rw [(hwr0 _ h).1] at e; cases e) (hk' b o e), F.above⟩ (fun p hp => ?_) (fun p hp => (below _ (hnlt p hp)).2) (hn'.at' fun o e => k2 _ o hCw e) (Ne.symm hDC) (Ne.symm (below _ hLlt).1) (fun p hp => (below _ (hnlt p hp)).1) (fresh₀ _ (by (first | lia | omega))) hJ'
      rcases List.mem_cons.mp hp with rfl | hp
      · exact ⟨k2 _ _ hDw hD', Ne.symm (below _ hLlt).2, fresh₀ _ (Nat.le_refl _)⟩
      · exact ⟨k2 _ _ (off p hp) (hN' p hp), (N p (List.mem_append.mpr (.inr hp))).2⟩
  exact codeAny_compStart_list (loop _ rfl) ((WT C).self 0 _ _ _ hst₁ (loop _ rfl))
end

section
variable {prog : Program} {w : World} {A : Around} {E : Value → Shared → Prop} {s s₁ : Shared} {h₀ : Heap} {m : PySem.Str → Option Value} {env : Env} {news : List (Addr × Obj)}
/-- what is left behind the iterable of a comprehension -/
noncomputable def LcU (prog : Program) (w : World) (A : Around) (h₀ : Heap) (env : Env) (tg elt : PySem.Expr) (ifs : List PySem.Expr) (scope : Scope) (cl : List (PySem.Str × Addr)) (up : (PySem.Str → Option Value) → Value → (PySem.Str → Option Value)) (Q : Value → Shared → Prop) (xv : Value) (s₁ : Shared) : Prop :=
  ∃ m news n Bd J, n ≤ 100000 ∧ J 0 [] ∧ (∀ i ys, J i ys → ys.length ≤ i) ∧
    wpAny (model prog w) A (pyIter xv) (fun it s₂ => ∃ I fp wr St wl0 h₂ tk₂, it = .ref I ∧ s₂ = { s₁ with heap := h₂, toks := tk₂ } ∧ (∀ C, Turns prog w A tg (compEnvC scope cl C env) I fp wr n Bd St) ∧ St 0 h₂ ∧ Fr h₀ env.locals h₂ m ∧
      News h₀ env.locals h₂ (wl0 ++ news) ∧ wl0.map (·.1) = wr ∧ (∀ p ∈ news, p.1 ∉ wr) ∧ (∀ b ∈ fp, b ∈ wr ∨ (∃ o, h₀.get? b = some o) ∨ b ∈ news.map (·.1)) ∧ LcTurn prog w A h₀ env elt ifs scope cl s₁ wr news n Bd J) NoE s₁ ∧
    (∀ D h tk ys k, Fr h₀ env.locals h (up m (.ref D)) → News h₀ env.locals h ((D, W.listOf ys.toArray k) :: news) → (∀ p ∈ news, p.1 ≠ D) → J n ys → Q (.ref D) { s₁ with heap := h, toks := tk })
theorem lcTurn_s {s₂ : Shared} {h₂ : Heap} {tk₂ : Nat} {elt : PySem.Expr} {ifs : List PySem.Expr} {scope : Scope} {cl : List (PySem.Str × Addr)} {wr : List Addr} {n : Nat} {Bd : Nat → (PySem.Str → Option Value) → Prop} {J : Nat → List Value → Prop} (e : s₂ = { s₁ with heap := h₂, toks := tk₂ }) (h : LcTurn prog w A h₀ env elt ifs scope cl s₁ wr news n Bd J) :
    LcTurn prog w A h₀ env elt ifs scope cl s₂ wr news n Bd J := by subst e; exact h
theorem my_lc {elt iter tg : PySem.Expr} {ifs : List PySem.Expr} {scope : Scope} {cl : List (PySem.Str × Addr)} {pos : Pos} {Q : Value → Shared → Prop} (F₀ : Fr h₀ env.locals s.heap m)
    (hclos : closureFor scope env = pure cl) (hcell : ∀ y ∈ scope.names, y.2 ≠ .cell) (hkind : scope.kind = .function)
    (hnames : ∀ y ∈ scope.names, y.2 = .local → scope.names.lookup y.1 = some .local)
    (h : wpAny (model prog w) A (eval iter env) (fun xv s₁ => LcU prog w A h₀ env tg elt ifs scope cl (fun m _ => m) Q xv s₁) NoE s)
    (hs : autoParam (∀ x, foldedSetIterable iter env x = pure x) irflAuto) :
    wpAny (model prog w) A (eval (.ListComp elt [⟨tg, iter, ifs, 0⟩] scope pos) env) Q E s := by
  rw [eval_ListComp]
  refine wpAny_comprehension_free (use := none) rfl hs hclos hkind hnames (wpAny_mono h (fun xv s₁ h₁ => ?_) fun _ _ e => e.elim)
  obtain ⟨m, news, n, Bd, J, hn, hJ0, hJl, hit, fin⟩ := h₁
  refine wpAny_mono hit (fun it s₂ h₂ => ?_) fun _ _ e => e.elim
  obtain ⟨I, fp, wr, St, wl0, h₂, tk₂, rfl, rfl, WT, hst, F, N, hwl, off, hfp, turn⟩ := h₂
  refine my_block (RR := fun acc C => compPost (model prog w) A E none Q acc C) WT hn hcell hkind hst F N hwl off hfp hJ0 hJl (lcTurn_s rfl turn) ?_
  intro D C h tk mc ys k F' N' oD hC hCD hCL oC hC0 hJ
  refine ⟨mc, hC, fun h'' hs'' => fin D h'' tk ys k ⟨F'.ns.sameBut hs'' (Ne.symm hCL), fun b o e => hs''.extBut b o (fun q => by rw [q, hC0] at e; cases e) (F'.keep b o e), F'.above⟩ (fun p hp => ?_) oD hJ⟩
  refine ⟨hs''.extBut _ _ ?_ (N' p hp).1, (N' p hp).2⟩
  rcases List.mem_cons.mp hp with rfl | hp
  · exact Ne.symm hCD
  · exact oC p hp
theorem my_lcA {elt iter tg : PySem.Expr} {ifs : List PySem.Expr} {scope : Scope} {cl : List (PySem.Str × Addr)} {pos spos py : Pos} {y : PySem.Str} {Q : Flow → Shared → Prop} (F₀ : Fr h₀ env.locals s.heap m)
    (hsw : swapsWith (.ListComp elt [⟨tg, iter, ifs, 0⟩] scope pos) (some (.Name y py)) spos.line env = pure true)
    (hclos : closureFor scope env = pure cl) (hcell : ∀ y ∈ scope.names, y.2 ≠ .cell) (hkind : scope.kind = .function)
    (hnames : ∀ y ∈ scope.names, y.2 = .local → scope.names.lookup y.1 = some .local)
    (hy : env.kindOf y = some .local) (hp : (env.scope.kind == .class || (env.scope.kind == .module && env.locals != env.globals)) = false)
    (h : wpAny (model prog w) A (eval iter env) (fun xv s₁ => LcU prog w A h₀ env tg elt ifs scope cl (fun m v z => if z = y then some v else m z) (fun _ s' => Q .next s') xv s₁) NoE s)
    (hs : autoParam (∀ x, foldedSetIterable iter env x = pure x) irflAuto) :
    wpAny (model prog w) A (exec (.Assign [.Name y py] (.ListComp elt [⟨tg, iter, ifs, 0⟩] scope pos) spos) env) Q E s := by
  rw [exec_Assign_Name_used _ _ _ _ hsw]
  refine wpAny_bind (wpAny_standAt (wpAny_bind ?_))
  show wpAny _ A (do let _ ← comprehension (.ListComp elt [⟨tg, iter, ifs, 0⟩] scope pos) scope env _ (newList []) false (eval iter env) (some (assign (.Name y py) env))) _ _ s
  refine wpAny_bind (wpAny_mono (wpAny_comprehension_free (use := some (assign (.Name y py) env)) (Q := fun _ s' => Q .next s') rfl hs hclos hkind hnames
    (wpAny_mono h (fun xv s₁ h₁ => ?_) fun _ _ e => e.elim)) (fun _ s' hq => wpAny_pure (wpAny_pure hq)) fun _ _ e => e)
  obtain ⟨m, news, n, Bd, J, hn, hJ0, hJl, hit, fin⟩ := h₁
  refine wpAny_mono hit (fun it s₂ h₂ => ?_) fun _ _ e => e.elim
  obtain ⟨I, fp, wr, St, wl0, h₂, tk₂, rfl, rfl, WT, hst, F, N, hwl, off, hfp, turn⟩ := h₂
  refine my_block (RR := fun acc C => compPost (model prog w) A E (some (assign (.Name y py) env)) (fun _ s' => Q .next s') acc C) WT hn hcell hkind hst F N hwl off hfp hJ0 hJl (lcTurn_s rfl turn) ?_
  intro D C h tk mc ys k F' N' oD hC hCD hCL oC hC0 hJ
  show wpAny _ A (assign (.Name y py) env (.ref D)) _ _ _
  refine wpAny_assign_Name (wpAny_storeName_local hy F'.ns (fun h₂ hn₂ hs₂ => ?_) hp)
  refine ⟨mc, hC.sameBut hs₂ hCL, fun h'' hs'' => fin D h'' _ ys k ?_ ?_ oD hJ⟩
  · have F₂ := F'.set hn₂ hs₂
    exact ⟨F₂.ns.sameBut hs'' (Ne.symm hCL), fun b o e => hs''.extBut b o (fun q => by rw [q, hC0] at e; cases e) (F₂.keep b o e), F₂.above⟩
  · have N₂ := N'.set hs₂
    intro p hp
    refine ⟨hs''.extBut _ _ ?_ (N₂ p hp).1, (N₂ p hp).2⟩
    rcases List.mem_cons.mp hp with rfl | hp
    · exact Ne.symm hCD
    · exact oC p hp

/-- the iterator of a value -/
noncomputable def Iter (prog : Program) (w : World) (A : Around) (h₀ : Heap) (L : Addr) (m : PySem.Str → Option Value) (news : List (Addr × Obj)) (n : Nat) (P : Nat → Value → Prop) (xv : Value) (s₁ : Shared) : Prop :=
  ∀ Q : Value → Shared → Prop, (∀ I io fp St h, Walks prog w A I fp [I] n P St → (∀ i h, St i h → ∃ o, h.get? I = some o) → St 0 h → Fr h₀ L h m → News h₀ L h ((I, io) :: news) → (∀ p ∈ news, p.1 ≠ I) →
    (∀ b ∈ fp, b = I ∨ (∃ o, h₀.get? b = some o) ∨ b ∈ news.map (·.1)) → Q (.ref I) { s₁ with heap := h }) → wpAny (model prog w) A (pyIter xv) Q NoE s₁
theorem iter_list {l : Addr} {vs : List Value} (hh : A.handled = none) (hl : s₁.heap.IsList l vs.toArray) (F : Fr h₀ env.locals s₁.heap m) (N : News h₀ env.locals s₁.heap news) (hloc : (∃ o, h₀.get? l = some o) ∨ l ∈ news.map (·.1)) :
    Iter prog w A h₀ env.locals m news vs.length (fun i v => vs[i]? = some v) (.ref l) s₁ := fun Q hQ => by
  refine wpAny_pyIter_list hl ?_
  have hlt : l < s₁.heap.objs.size := by obtain ⟨_, e, _⟩ := hl; exact Heap.lt_size e
  have W1 : Walks prog w A s₁.heap.objs.size [s₁.heap.objs.size, l] [s₁.heap.objs.size] vs.length (fun i v => vs[i]? = some v) (fun i h => h.IsListIter s₁.heap.objs.size l i ∧ h.IsList l vs.toArray) := by
    simpa using Walks.list (prog := prog) (w := w) hh s₁.heap.objs.size l (Nat.ne_of_lt hlt) vs.toArray
  refine hQ s₁.heap.objs.size _ _ _ _ W1 (fun i h st => by obtain ⟨o, e, _⟩ := st.1; exact ⟨o, e⟩) ⟨⟨_, Heap.get?_push_size _ rfl, rfl, rfl⟩, hl.push _⟩ (F.push _) (N.push F _) (fun p hp => Nat.ne_of_lt (Heap.lt_size (N p hp).1)) fun b hb => ?_
  rcases List.mem_cons.mp hb with rfl | hb
  · exact .inl rfl
  · rw [List.mem_singleton.mp hb]; exact .inr hloc
theorem Walks.imp {I : Addr} {fp wr : List Addr} {n : Nat} {P P' : Nat → Value → Prop} {St : Nat → Heap → Prop} (W0 : Walks prog w A I fp wr n P St) (h : ∀ i v, P i v → P' i v) : Walks prog w A I fp wr n P' St where
  sub := W0.sub
  frame := W0.frame
  item := fun i s Q E hi st hQ => W0.item i s Q E hi st fun v h' tk hP => hQ v h' tk (h i v hP)
  done := W0.done
  self := W0.self
theorem sign_mk {l : List Nat} {i : Nat} {v : Value} (h : SignAt (mk l) i v) : ∃ c, l[i]? = some c ∧ StrV [c] v :=
  let ⟨c, u, h1, h2⟩ := h; ⟨c, by simpa using h1, u, h2⟩
theorem iter_str {l : List Nat} {t : Tok} (hh : A.handled = none) (F : Fr h₀ env.locals s₁.heap m) (N : News h₀ env.locals s₁.heap news) :
    Iter prog w A h₀ env.locals m news l.length (fun i v => ∃ c, l[i]? = some c ∧ StrV [c] v) (.str (mk l) t) s₁ := fun Q hQ => by
  have fp : ∀ b ∈ [s₁.heap.objs.size], b = s₁.heap.objs.size ∨ (∃ o, h₀.get? b = some o) ∨ b ∈ news.map (·.1) := fun b hb => .inl (List.mem_singleton.mp hb)
  have off : ∀ p ∈ news, p.1 ≠ s₁.heap.objs.size := fun p hp => Nat.ne_of_lt (Heap.lt_size (N p hp).1)
  cases ha : (mk l).cps.all (· < 128)
  · refine wpAny_pyIter_wide ha ?_
    have W1 := Walks.imp (PySem.Walks.strWide (prog := prog) (w := w) hh s₁.heap.objs.size (mk l) t) fun i v => sign_mk
    rw [show (mk l).cps.size = l.length by simp] at W1
    exact hQ s₁.heap.objs.size _ _ _ _ W1 (fun i h st => by obtain ⟨o, e, _⟩ := st; exact ⟨o, e⟩) ⟨_, Heap.get?_push_size _ rfl, rfl, rfl⟩ (F.push _) (N.push F _) off fp
  · refine wpAny_pyIter_ascii ha ?_
    have W1 := Walks.imp (PySem.Walks.strAscii (prog := prog) (w := w) hh s₁.heap.objs.size (mk l) t) fun i v => sign_mk
    rw [show (mk l).cps.size = l.length by simp] at W1
    exact hQ s₁.heap.objs.size _ _ _ _ W1 (fun i h st => by obtain ⟨o, e, _⟩ := st; exact ⟨o, e⟩) ⟨_, Heap.get?_push_size _ rfl, rfl, rfl⟩ (F.push _) (N.push F _) off fp
theorem iter_range {r : Addr} {t u v : Tok} {z : Int} {n : Nat} (hh : A.handled = none) (hr : IsRange s₁.heap r 0 z 1 t u v) (hzn : z = (n : Nat)) (hz : n ≤ 100000) (F : Fr h₀ env.locals s₁.heap m) (N : News h₀ env.locals s₁.heap news) :
    Iter prog w A h₀ env.locals m news n (fun i v => i < n ∧ ∃ t, v = .int (i : Nat) t) (.ref r) s₁ := fun Q hQ => by
  subst hzn
  have hsm : Builtin.Range.small 0 (n : Nat) 1 = true := small_one (by decide) (by decide) (by (first | lia | omega)) (by (first | lia | omega))
  have hrs : Builtin.Range.rangeSize 0 (n : Nat) 1 = (n : Nat) := by
    unfold Builtin.Range.rangeSize
    by_cases h : 0 < n
    · rw [if_pos (by decide), if_pos (by (first | lia | omega))]; (first | lia | omega)
    · rw [if_pos (by decide), if_neg (by (first | lia | omega))]; (first | lia | omega)
  refine wpAny_pyIter_range hr hsm ?_
  have W1 := PySem.Walks.bound <| Walks.imp (P' := fun i v => ∃ t, v = .int (i : Nat) t) (LCg.range_walks (prog := prog) (w := w) (I := s₁.heap.objs.size) hh 0 n) fun i v ⟨t, e⟩ => ⟨t, by rw [e, Int.zero_add]⟩
  refine hQ s₁.heap.objs.size _ _ _ _ W1 (fun i h st => ⟨_, st⟩) ?_ (F.push _) (N.push F _) (fun p hp => Nat.ne_of_lt (Heap.lt_size (N p hp).1)) fun b hb => .inl (List.mem_singleton.mp hb)
  show IsRangeIter _ _ _ _ _
  rw [hrs]
  simpa using Heap.get?_push_size s₁.heap rfl

theorem one_of {wl : List (Addr × Obj)} {I : Addr} (h : wl.map (·.1) = [I]) : ∃ io, wl = [(I, io)] := by
  rcases wl with _ | ⟨⟨a, o⟩, r⟩
  · cases h
  · simp only [List.map_cons, List.cons.injEq, List.map_eq_nil_iff] at h
    obtain ⟨rfl, rfl⟩ := h
    exact ⟨o, rfl⟩
/-- a turn's test and element -/
noncomputable def LcOne (prog : Program) (w : World) (A : Around) (cenv : Env) (elt : PySem.Expr) (E1 : Value → Shared → Prop) (E0 : Shared → Prop) (ifs : List PySem.Expr) (s : Shared) : Prop := match ifs with
  | [] => wpAny (model prog w) A (eval elt cenv) E1 NoE s
  | [c] => wpAny (model prog w) A (isTrue c cenv (eval c cenv)) (fun ok s' => if ok = true then wpAny (model prog w) A (eval elt cenv) E1 NoE s' else E0 s') NoE s
  | _ => False
theorem lcOne {cenv : Env} {elt : PySem.Expr} {ifs : List PySem.Expr} {E1 : Value → Shared → Prop} {E0 : Shared → Prop} (h : LcOne prog w A cenv elt E1 E0 ifs s) :
    wpAny (model prog w) A (testsOf ifs cenv) (fun ok s₃ => if ok = true then wpAny (model prog w) A (eval elt cenv) E1 NoE s₃ else E0 s₃) NoE s := by
  match ifs, h with
  | [], h => exact wpAny_tests_nil h
  | [c], h => exact wpAny_tests_one h
noncomputable def LcYes {β : Type} (h₀ : Heap) (C : Addr) (s : Shared) (led : List (Addr × Obj)) (o : Option β) (Rb : β → Value → Prop) (y : Value) (s' : Shared) : Prop := LcEnd h₀ C s led (∃ b, o = some b ∧ Rb b y) s'
theorem endY {β : Type} {C : Addr} {led : List (Addr × Obj)} {o : Option β} {b : β} {Rb : β → Value → Prop} {y : Value} {h' : Heap} {tk : Nat} {m' : PySem.Str → Option Value} (F : Fr h₀ C h' m') (N : News h₀ C h' led) (ho : o = some b) (hR : Rb b y) : LcYes h₀ C s led o Rb y { s with heap := h', toks := tk } := ⟨h', tk, m', rfl, F, N, b, ho, hR⟩
/-- a comprehension as a filterMap -/
theorem lc_any {α β : Type} {elt : PySem.Expr} {ifs : List PySem.Expr} {x : PySem.Str} {px : Pos} {scope : Scope} {cl : List (PySem.Str × Addr)} {up : (PySem.Str → Option Value) → Value → (PySem.Str → Option Value)} {Q : Value → Shared → Prop} {xv : Value} {P : Nat → Value → Prop} {n : Nat}
    (as : List α) (f : α → Option β) (Ra : α → Value → Prop) (Rb : β → Value → Prop) (I : Iter prog w A h₀ env.locals m news n P xv s₁) (hn : as.length = n) (hP : ∀ i v, P i v → ∃ a, as[i]? = some a ∧ Ra a v) (hz : as.length ≤ 100000)
    (hx : scope.names.lookup x = some .local) (hkind : scope.kind = .function)
    (turn : ∀ C D oL I io (i : Nat) a v (ys : List Value) k mc h tk, as[i]? = some a → Ra a v → mc x = some v → Fr h₀ C h mc → News h₀ C h ((I, io) :: (D, W.listOf ys.toArray k) :: (env.locals, oL) :: news) →
      LcOne prog w A (compEnvC scope cl C env) elt (LcYes h₀ C s₁ ((I, io) :: (D, W.listOf ys.toArray k) :: (env.locals, oL) :: news) (f a) Rb) (LcEnd h₀ C s₁ ((I, io) :: (D, W.listOf ys.toArray k) :: (env.locals, oL) :: news) (f a = none)) ifs { s₁ with heap := h, toks := tk })
    (fin : ∀ D h tk (ys : List Value) k, Fr h₀ env.locals h (up m (.ref D)) → News h₀ env.locals h ((D, W.listOf ys.toArray k) :: news) → (∀ p ∈ news, p.1 ≠ D) → All2 Rb (as.filterMap f) ys → Q (.ref D) { s₁ with heap := h, toks := tk }) :
    LcU prog w A h₀ env (.Name x px) elt ifs scope cl up Q xv s₁ := by
  subst hn
  refine ⟨m, news, as.length, fun i mc => ∃ v, P i v ∧ mc x = some v, fun i ys => All2 Rb ((as.take i).filterMap f) ys, hz, .nil, fun i ys h => ?_, I _ fun I io fp St h₂ W1 own hst F N off hfp => ?_, fun D h tk ys k F N o hJ => fin D h tk ys k F N o (by have hJ' : All2 Rb ((as.take as.length).filterMap f) ys := hJ; rw [List.take_length] at hJ'; exact hJ')⟩
  · rw [← h.len]
    exact Nat.le_trans (List.length_filterMap_le _ _) (by rw [List.length_take]; (first | lia | omega))
  · refine ⟨I, fp, [I], St, [(I, io)], h₂, s₁.toks, rfl, rfl, fun C => Turns.name W1 (fun i h st b hb => by rw [List.mem_singleton.mp hb]; exact own i h st) (lookup_relabel_local hx) (by simp [compEnvC, relabel, hkind]), hst, F, N, rfl, fun p hp q => off p hp (List.mem_singleton.mp q), fun b hb => ?_, ?_⟩
    · rcases hfp b hb with h | h
      · exact .inl (List.mem_singleton.mpr h)
      · exact .inr h
    · rintro C D oL wl i ys k mc h tk hi ⟨v, hv, hm⟩ hJ hwl F N
      obtain ⟨io', rfl⟩ := one_of hwl
      obtain ⟨a, ha, hRa⟩ := hP i v hv
      have step : (as.take (i + 1)).filterMap f = (as.take i).filterMap f ++ (f a).toList := by
        rw [List.take_add_one, ha, List.filterMap_append]
        cases hf : f a <;> simp [hf]
      refine wpAny_mono (lcOne (turn C D oL I io' i a v ys k mc h tk ha hRa hm F N)) (fun ok s₃ h₃ => ?_) fun _ _ e => e
      cases ok with
      | true =>
        refine wpAny_mono h₃ (fun y s₄ h₄ => ?_) fun _ _ e => e
        obtain ⟨h', tk', m', rfl, F', N', b, hb, hRb⟩ := h₄
        refine ⟨h', tk', m', rfl, F', N', ?_⟩
        show All2 Rb ((as.take (i + 1)).filterMap f) (ys ++ [y])
        rw [step, hb]
        exact hJ.snoc hRb
      | false =>
        obtain ⟨h', tk', m', rfl, F', N', hf⟩ := h₃
        refine ⟨h', tk', m', rfl, F', N', ?_⟩
        show All2 Rb ((as.take (i + 1)).filterMap f) ys
        rw [step, hf]
        simpa using hJ
end
section
variable {M : Model} {A : Around} {E : Value → Shared → Prop} {s : Shared} {h₀ : Heap} {L C c : Addr} {m : PySem.Str → Option Value} {news : List (Addr × Obj)} {scope : Scope} {cl : List (PySem.Str × Addr)} {env : Env} {x : PySem.Str} {pos : Pos} {v : Value} {o : Obj} {Q : Value → Shared → Prop}
theorem lcn_L (F : Fr h₀ C s.heap m) (hv : m x = some v) (h : Q v s)
    (hk : (compEnvC scope cl C env).scope.kind = .function) (hx : (compEnvC scope cl C env).kindOf x = some .local) (hd : (x == ("__debug__" : PySem.Str)) = false) :
    wpAny M A (eval (.Name x pos) (compEnvC scope cl C env)) Q E s := wpAny_Name (wpAny_loadName_local hk hx F.ns hv h) hd
theorem lcn_G {K : Frag} {mg mb : PySem.Str → Option Value} {mean : ExcName → Option Value} {p : Program} {loose : List PySem.Str} (F : Fr h₀ C s.heap m) (X : K.In h₀) (T : Top p loose mean mg mb h₀)
    (e : nsIn K mainGlobals x = some (some v)) (h : Q v s) (hg : env.globals = mainGlobals) (hk : (compEnvC scope cl C env).scope.kind = .function) (hx : (compEnvC scope cl C env).kindOf x = some .globalImplicit) (hd : (x == ("__debug__" : PySem.Str)) = false) :
    wpAny M A (eval (.Name x pos) (compEnvC scope cl C env)) Q E s :=
  Name_function_global hk hx (loadGlobal_global (env := compEnvC scope cl C env) (by show s.heap.Ns env.globals _; rw [hg]; exact T.g.keeps F.keep) (mg_of X T.g e) h) hd
end
theorem All2.map_eq {α β : Type} {R : α → β → Prop} {as as' : List α} {bs : List β} (h : All2 R as bs) (e : as = as') : All2 R as' bs := e ▸ h
theorem fm_filter {α : Type} {p : α → Bool} (l : List α) : l.filterMap (fun a => if p a = true then some a else none) = l.filter p := by
  induction l with
  | nil => rfl
  | cons a r ih => cases h : p a <;> simp [List.filterMap_cons, h, ih]

end
local macro_rules | `(tactic| walk_at "eval Name") => sqM [wr (showT (ap ``PySem.eval [holeT, apH ``envOfC 5])), dfl (alts [scS "w" ``nameX_L 3 3 "1:a 2:ra" "", scS "w" ``nameX_C 5 5 "1:a 2:= 3:k_mem 4:ra" ""])]
local macro_rules | `(tactic| walk_at "eval Name") => sqM [wr (showT (ap ``PySem.eval [holeT, apH ``compEnvC 4])), dfl (alts [scS "w" ``lcn_L 6 3 "1:a 2:ar 4:rfl 5:rfl 6:decide" "", scS "w" ``lcf_cell 7 5 "6:rfl 7:rfl 1:a 2:rfl 3:k_mem 4:ar" "", scS "w" ``lcf_free 7 5 "6:rfl 7:rfl 1:a 2:rfl 3:k_mem 4:ar" "", scS "w" ``lcn_G 9 5 "1:a 2:a 3:a 4:k_is 6:rfl 7:rfl 8:rfl 9:decide" ""])]
local macro_rules | `(tactic| walk_at "my steps") => stepsOf stops2
local macro_rules | `(tactic| walk_at "my lc") => sc "ds" ``my_lc 6 6 "1:a 2:wu 3:decide 4:= 5:decide" ""
local macro_rules | `(tactic| walk_at "my lcA") => sc "ds" ``my_lcA 9 9 "1:a 2:wu 3:wu 4:decide 5:= 6:decide 7:= 8:=" ""
theorem walk_reset_F9 {M : Model} {A : Around} {E : Value → Shared → Prop} {s : Shared} {Q : Bool → Shared → Prop} (h : Q true s) : wpAny M A (truthy (.bool true)) Q E s := by first | (walk1; exact h) | exact wpAny_truthy_bool h
section
set_option maxRecDepth 100000
set_option maxHeartbeats 8000000
set_option linter.unusedVariables false
set_option linter.unusedSimpArgs false
open PySem PySem.W PySem.Calls PyProof.Rows
theorem grpV_of {g h : Heap} {L aL : Addr} {kL : Nat} {news don : List (Addr × Obj)} {GI : List (List It)} {GL : List It} {gi gL : List Value} (N : News g L h news) (sub : ∀ p ∈ don, p ∈ news) (hm : (aL, W.listOf gL.toArray kL) ∈ news)
    (hGI : All2 (fun G v => ∃ a gs k, v = Value.ref a ∧ (a, W.listOf (gs : List Value).toArray k) ∈ don ∧ All2 ItV G gs) GI gi) (hGL : All2 ItV GL gL) : All2 (GrpV h) (GI ++ [GL]) (gi ++ [Value.ref aL]) :=
  (hGI.imp fun G v ⟨a, gs, k, e1, e2, e3⟩ => (⟨a, gs, e1, Li.led N (sub _ e2), e3⟩ : GrpV h G v)).snoc ⟨aL, gL, rfl, Li.led N hm, hGL⟩
inductive KpJ (P : List It) (Nm c : Addr) (co : Obj) (r1 : Addr) (vs1 : List Value) (n1 : Nat) (D : Addr) (ps : Array Value) (I : Addr) (i : Nat) (m : Str → Option Value) (news : List (Addr × Obj)) : Prop
  | is (gi gL aL kD kL don GI GL pre post : _) (x1_ : P = pre ++ post) (x2_ : pre.length = i) (x3_ : grp pre = GI ++ [GL]) (x4_ : news = (c, co) :: (r1, W.listOf vs1.toArray n1) :: (D, W.listOf ((gi : List Value) ++ [Value.ref aL]).toArray kD) :: (aL, W.listOf (gL : List Value).toArray kL) :: (don ++ [(97, tabObj ps)])) (x5_ : (I :: news.map (·.1)).Nodup) (x6_ : All2 (fun G v => ∃ a gs k, v = .ref a ∧ (a, W.listOf (gs : List Value).toArray k) ∈ don ∧ All2 ItV G gs) GI gi) (x7_ : All2 ItV GL gL) (x8_ : m (Str.ofString "names") = some (.ref Nm)) : KpJ P Nm c co r1 vs1 n1 D ps I i m news
section
variable {prog : Program} {w : World} {A : Around} {E : Value → Shared → Prop} {s : Shared} {Q : Value → Shared → Prop} {mg mb : Str → Option Value} {l k : List Nat} {t u : Tok}
local macro_rules | `(tactic| walk_at "my steps") => stepsOf ([blT ``PySem.Value.builtin "list.append", ap ``eval [apH ``PySem.Expr.ListComp 4, holeT]] ++ stops2)
local macro_rules | `(tactic| walk_at "call ref") => st "n" ``c_translate "wd deep rfl a a a a" "h' t' tk' x' W'"
local macro_rules | `(tactic| walk_at "call ref") => st "k" ``c_read "wd deep rfl len a a" "h' r' vs' n' tk' x' hr' hf' hv'"
theorem c_kept {P : List It} {Nm : Addr} {ns : List (List Nat)} {nv : List Value} (W0 : Wd w mg mb s.heap) (hd : A.depth + 3 < recursionLimit) (hh : A.handled = none) (hl9 : (pat P).length ≤ 900) (hl2 : (rtail false P).length ≤ 10000) (ok : ∀ i ∈ P, i.ok) (nss : noSS P)
    (hN : s.heap.IsList Nm nv.toArray) (hn : All2 StrV ns nv) (hz : ns.length ≤ 1000) (hnz : ∀ n ∈ ns, n.length ≤ 1000)
    (hQ : ∀ h' r kv n tk', Ext7 s.heap h' → Wd w mg mb h' → h'.get? r = some (W.listOf (kv : List Value).toArray n) → s.heap.get? r = none → All2 StrV (ns.filter (takes (grp P))) kv → Q (.ref r) { s with heap := h', toks := tk' }) :
    wpAny (model prog w) A (call (.ref 152) [.str (mk (pat P)) t, .ref Nm]) Q E s := by
  obtain ⟨ah, adp, afr, agd, aun⟩ := A
  dsimp only at hh hd
  subst hh
  obtain ⟨X, ⟨_, _, mean, T⟩, BT⟩ := id W0
  have hd' : adp < recursionLimit := by (first | lia | omega)
  have hlP := pat_len P
  have hl : (pat P).length ≤ 1000 := by (first | lia | omega)
  obtain ⟨oN, hN1, hN2, hN3⟩ := id hN
  have hN' : (hid s.heap).IsList Nm nv.toArray := ⟨oN, hid_cls BT hN1 (.inl (by rw [hN2]; nofun)), hN2, hN3⟩
  k_dflt (refine' enter7C (binds := [(Str.ofString "pattern", .str (mk (pat P)) t), (Str.ofString "names", .ref Nm)]) X T BT ?k6 ?k7 hd' ?k9 ?kB ?kD ?c2 ?c3 ?c4 ?_; (case k6 => k_is); (case k7 => k_is); (case k9 => exact BindsTo.of_eq rfl); (case kB => exact kindsX rfl); (case kD => decide +kernel); (case c2 => exact rfl); (case c3 => exact rfl); (case c4 => exact rfl); k_whole; intro L h₁ tk cells ps X7 T7 okp l97 F N Y; k_cells Y; (try simp only [List.cons_append, List.nil_append] at N); (try dsimp only); (try k_fold))
  clear X T BT
  obtain ⟨_, T7⟩ := T7
  walk_at "my steps"
  rename_i ps1 ok1 hh1 r1 vs1 n1 tk1 x1 hr1 hf1 hv1 ne1 hA la hB l1 D hC F1 N1 l2 hD co F2 N2 dco
  refine my_for ?_
  walk_at "my steps"
  have hne1 : L + 1 ≠ r1 := ne1 _ (.head _)
  have hne2 : 97 ≠ r1 := ne1 _ (.tail _ (.head _))
  refine for_list (KpJ P Nm (L + 1) co r1 vs1 n1 D ps1) (Li.led N2 (by k_mem)) F2 (newsSub (news' := [(L + 1, co), (r1, W.listOf vs1.toArray n1), (D, W.listOf (([] : List Value) ++ [Value.ref la]).toArray 0), (la, W.listOf ([] : List Value).toArray 0)] ++ [(97, tabObj ps1)]) N2 ?_) rfl rfl rfl ?_ ?_ ?_ ?_ ?_
  · intro p hp
    simp only [List.cons_append, List.nil_append, List.mem_cons, List.not_mem_nil, or_false] at hp ⊢
    rcases hp with h | h | h | h | h <;> simp [h]
  · intro I hI
    refine ⟨[], [], la, 0, 0, [], [], [], [], P, rfl, rfl, rfl, rfl, ?_, .nil, .nil, rfl⟩
    have hI' : ∀ b ∈ [L + 1, r1, D, la, 97], b < I := fun b hb => by
      simp only [List.mem_cons, List.not_mem_nil, or_false] at hb
      rcases hb with rfl | rfl | rfl | rfl | rfl
      · exact hI (_, co) (by simp)
      · exact hI (_, W.listOf vs1.toArray n1) (by simp)
      · exact hI (_, W.listOf (([] : List Value) ++ [Value.ref la]).toArray 0) (by simp)
      · exact hI (_, W.listOf ([] : List Value).toArray 0) (by simp)
      · exact hI (_, tabObj ps1) (by simp)
    show [I, L + 1, r1, D, la, 97].Nodup
    have cs : ∀ {a b : Nat} {l : List Nat}, a ≠ b → a ∉ l → a ∉ b :: l := fun h1 h2 q => (List.mem_cons.mp q).elim h1 h2
    have A1 : r1 < la ∧ L + 1 < la ∧ 97 < la := by assumption
    have B1 : la < D ∧ r1 < D ∧ L + 1 < D ∧ 97 < D := by assumption
    exact List.nodup_cons.mpr ⟨fun q => Nat.lt_irrefl _ (hI' _ q), List.nodup_cons.mpr ⟨cs hne1 (cs (Nat.ne_of_lt B1.2.2.1) (cs (Nat.ne_of_lt A1.2.1) (cs (Nat.ne_of_gt (Nat.lt_succ_of_lt l97)) List.not_mem_nil))), List.nodup_cons.mpr ⟨cs (Nat.ne_of_lt B1.2.1) (cs (Nat.ne_of_lt A1.1) (cs hne2.symm List.not_mem_nil)), List.nodup_cons.mpr ⟨cs (Nat.ne_of_gt B1.1) (cs (Nat.ne_of_gt B1.2.2.2) List.not_mem_nil), List.nodup_cons.mpr ⟨cs (Nat.ne_of_gt A1.2.2) List.not_mem_nil, List.nodup_cons.mpr ⟨List.not_mem_nil, List.nodup_nil⟩⟩⟩⟩⟩⟩
  · rintro I i m news ⟨gi, gL, aL, kD, kL, don, GI, GL, pre, post, _, _, _, _, hnd, _⟩ q hq e
    exact (List.nodup_cons.mp hnd).1 (e ▸ List.mem_map_of_mem hq)
  · rintro I i m news h ⟨gi, gL, aL, kD, kL, don, GI, GL, pre, post, _, _, _, rfl, _⟩ F N
    exact Li.led N (.tail _ (.head _))
  · rintro I io i v m₁ news₁ h₁ tk₁ hio hv ⟨gi, gL, aL, kD, kL, don, GI, GL, pre, post, hP, hi, hg, rfl, hnd, hGI, hGL, mN⟩ F N
    have hiP : i < P.length := by
      have := (List.getElem?_eq_some_iff.mp hv).1
      rw [← hv1.len] at this; exact this
    obtain ⟨it, post', rfl⟩ : ∃ it post', post = it :: post' := by
      cases post with
      | nil => rw [hP, List.append_nil] at hiP; (first | lia | omega)
      | cons a b => exact ⟨a, b, rfl⟩
    obtain ⟨v', hv', hiv⟩ := hv1.get (i := i) (a := it) (by rw [hP, ← hi]; simp)
    rw [hv] at hv'
    obtain rfl := Option.some.inj hv'
    have hbk : (gi ++ [Value.ref aL]).toArray.back? = some (.ref aL) := Li.back_snoc
    have hgz : (gi ++ [Value.ref aL]).toArray.size ≤ 2000 := by
      have h1 := hGI.len
      have h2 := grp_len pre
      have h3 : pre.length ≤ P.length := by rw [hP]; simp
      rw [hg, List.length_append] at h2
      simp only [List.size_toArray, List.length_append, List.length_cons, List.length_nil] at h2 ⊢
      (first | lia | omega)
    by_cases hs : it = .star
    · subst hs
      cases (show v = .none from hiv)
      walk_at "my steps"
      (rename Fr _ _ _ _ => Fz); (rename News _ _ _ _ => Nz); (rename Addr => aN)
      rename (I < aN ∧ _) => lN0
      have lN : ∀ q ∈ (I, io) :: (L + 1, co) :: (r1, W.listOf vs1.toArray n1) :: (D, W.listOf (gi ++ [Value.ref aL]).toArray kD) :: (aL, W.listOf gL.toArray kL) :: (don ++ [(97, tabObj ps1)]), q.1 < aN := kst_ltOf lN0
      have ndz : (List.map (·.1) ([(aN, W.listOf #[] 0), (I, io), (L + 1, co), (r1, W.listOf vs1.toArray n1)] ++ (D, W.listOf (gi ++ [Value.ref aL]).toArray kD) :: (aL, W.listOf gL.toArray kL) :: (don ++ [(97, tabObj ps1)]))).Nodup := by
        refine List.nodup_cons.mpr ⟨fun h => ?_, hnd⟩
        obtain ⟨q, hq, e⟩ := List.mem_map.mp h
        exact Nat.lt_irrefl _ (e ▸ lN q hq)
      refine r_append Fz Nz (by k_mem) (by (first | lia | omega)) ?_
      intro h' n' F' up
      have N' := up _ (newsPut (x := [(aN, W.listOf #[] 0), (I, io), (L + 1, co), (r1, W.listOf vs1.toArray n1)]) (o' := W.listOf ((gi ++ [Value.ref aL]).toArray.push (Value.ref aN)) n') ndz)
      clear Fz Nz
      walk_at "my steps"
      (rename Fr _ _ _ _ => Fz); (rename News _ _ _ _ => Nz)
      rw [List.push_toArray] at Nz
      refine endF Fz (newsSub Nz (fun p hp => ?_)) ⟨gi ++ [Value.ref aL], [], aN, n', 0, (aL, W.listOf gL.toArray kL) :: don, GI ++ [GL], [], pre ++ [It.star], post', by rw [hP]; simp, by simp [hi], by rw [grp_star, hg], rfl, ?_, ?_, .nil, mN⟩
      · exact (List.perm_middle (l₁ := [(I, io), (L + 1, co), (r1, W.listOf vs1.toArray n1), (D, W.listOf (gi ++ [Value.ref aL] ++ [Value.ref aN]).toArray n')])).mem_iff.mp hp
      · exact (List.perm_middle (l₁ := [I, L + 1, r1, D]) (a := aN)).nodup_iff.mpr ndz
      · exact (hGI.imp fun G v ⟨a, gs, k, e1, e2, e3⟩ => ⟨a, gs, k, e1, .tail _ e2, e3⟩).snoc ⟨aL, gL, kL, rfl, .head _, hGL⟩
    · obtain ⟨l', hl', t', rfl⟩ : ∃ l', it.val = some l' ∧ StrV l' v := by
        unfold ItV at hiv
        revert hiv hs
        cases it <;> intro hiv hs <;> first | exact absurd rfl hs | exact ⟨_, rfl, hiv⟩
      walk_at "my steps"
      (rename Fr _ _ _ _ => Fz); (rename News _ _ _ _ => Nz)
      have hglz : gL.toArray.size ≤ 2000 := by
        have h1 := hGL.len
        have h2 := (grp_mem (P := pre) GL (by rw [hg]; simp)).1
        have h3 : pre.length ≤ P.length := by rw [hP]; simp
        rw [List.size_toArray]
        (first | lia | omega)
      refine r_append Fz Nz (by k_mem) (by (first | lia | omega)) ?_
      intro h' n' F' up
      have N' := up _ (newsPut (x := [(I, io), (L + 1, co), (r1, W.listOf vs1.toArray n1), (D, W.listOf (gi ++ [Value.ref aL]).toArray kD)]) (a := aL) (o' := W.listOf (gL.toArray.push (Value.str (mk l') t')) n') hnd)
      clear Fz Nz
      walk_at "my steps"
      (rename Fr _ _ _ _ => Fz); (rename News _ _ _ _ => Nz)
      rw [List.push_toArray] at Nz
      refine endF Fz Nz ⟨gi, gL ++ [Value.str (mk l') t'], aL, kD, n', don, GI, GL ++ [it], pre ++ [it], post', by rw [hP]; simp, by simp [hi], grp_snoc hs hg, rfl, hnd, hGI, hGL.snoc hiv, mN⟩
  · rintro I m₁ news₁ h₁ tk₁ ⟨gi, gL, aL, kD, kL, don, GI, GL, pre, post, hP, hi, hg, rfl, hnd, hGI, hGL, mN⟩ F N
    walk_at "my steps"
    have hgP : GI ++ [GL] = grp P := by
      have hpost : post = [] := by
        have h1 := congrArg List.length hP
        have h2 := hv1.len
        rw [List.length_append] at h1
        exact List.eq_nil_of_length_eq_zero (by (first | lia | omega))
      rw [← hg, hP, hpost, List.append_nil]
    walk_at "my lc"
    refine lc_any ns (fun n => if takes (grp P) n = true then some n else none) StrV StrV (iter_list (by rfl) (hN'.at fun o e => F.keep _ o e) F N (.inl (by obtain ⟨o, e, _⟩ := hN'; exact ⟨o, e⟩))) hn.len (fun i v h => hn.back h) (by (first | lia | omega)) (by rfl) (by rfl) ?_ ?_
    · intro C D2 oL I2 io i n v ys k mc h2 tk2 hn1 hv1 hmc F N
      show wpAny _ _ (isTrue _ _ _) _ _ _
      obtain ⟨tn, rfl⟩ := hv1
      walk_at "my steps"
      (rename Fr _ C _ _ => Fz); (rename News _ C _ _ => Nz)
      have sub1 : ∀ p ∈ don, p ∈ (I2, io) :: (D2, W.listOf ys.toArray k) :: (L, oL) :: (L + 1, co) :: (r1, W.listOf vs1.toArray n1) :: (D, W.listOf (gi ++ [Value.ref aL]).toArray kD) :: (aL, W.listOf gL.toArray kL) :: (don ++ [(97, tabObj ps1)]) := fun p hp => by simp [hp]
      have m97 : (97, tabObj ps1) ∈ (I2, io) :: (D2, W.listOf ys.toArray k) :: (L, oL) :: (L + 1, co) :: (r1, W.listOf vs1.toArray n1) :: (D, W.listOf (gi ++ [Value.ref aL]).toArray kD) :: (aL, W.listOf gL.toArray kL) :: (don ++ [(97, tabObj ps1)]) := by simp
      have hnl : n.length ≤ 1000 := hnz n (List.mem_of_getElem? hn1)
      have hgl := grp_len P
      refine c_takes (wdOf Fz Nz m97 ok1 W0) (by walk_at "my deep") rfl hnl (by (first | lia | omega)) (fun G hG => ⟨by have := (grp_mem G hG).1; (first | lia | omega), (grp_mem G hG).2⟩) (grp_ne P) (Li.led Nz (by k_mem)) (hgP ▸ grpV_of Nz sub1 (by k_mem) hGI hGL) ?_
      intro h' tk' x'
      have F' := Fr.keeps Fz x'
      have N' := News.grown Nz x'
      clear Fz Nz
      cases htk : takes (grp P) n with
      | true =>
        walk_at "my steps"
        exact endY F' N' (if_pos htk) ⟨_, rfl⟩
      | false =>
        walk_at "my steps"
        exact endC F' N' (by rw [htk]; rfl)
    · intro D2 h2 tk2 ys k F N oD hA
      rw [fm_filter] at hA
      have h97 : D2 ≠ 97 := fun q => oD _ (show (97, tabObj ps1) ∈ _ by simp) q.symm
      walk_at "my steps"
      exact hQ _ D2 ys k tk2 (ext7_fr F) (wdOf F N (List.mem_cons_of_mem _ (List.mem_cons_of_mem _ (List.mem_cons_of_mem _ (List.mem_cons_of_mem _ (List.mem_cons_of_mem _ (List.mem_append_right _ (.head _))))))) ok1 W0) (N _ (.head _)).1 (fresh7 h97 (N _ (.head _)).2.2) hA
end
end
section
set_option Elab.async false
set_option maxRecDepth 100000
set_option maxHeartbeats 2000000
open PySem PySem.W PySem.Calls PySem.Builtin PyProof.Rows
section
variable {prog : Program} {w : World} {A : Around} {E : Value → Shared → Prop} {s : Shared} {Q : Value → Shared → Prop} {h₀ : Heap} {L D D2 : Addr} {m : PySem.Str → Option Value} {news : List (Addr × Obj)} {l : List Nat} {t : Tok} {ls : List (List Nat)} {vs ws : List Value}
theorem strsAre (h : All2 StrV ls vs) : StrsAre vs (ls.map mk) := by
  induction h with
  | nil => exact .nil
  | cons h1 _ ih => obtain ⟨t, rfl⟩ := h1; exact .cons _ t ih
theorem any_mk : (ls.map mk).any (· == mk l) = decide (l ∈ ls) := by
  rw [Bool.eq_iff_iff, List.any_eq_true, decide_eq_true_eq]
  constructor
  · rintro ⟨x, hx, e⟩
    obtain ⟨k, hk, rfl⟩ := List.mem_map.mp hx
    have := congrArg (fun z : PySem.Str => z.cps.toList) (eq_of_beq e)
    simp at this
    exact this ▸ hk
  · intro h
    exact ⟨mk l, List.mem_map_of_mem h, beq_self_eq_true _⟩
theorem r_inL (hl : s.heap.IsList D vs.toArray) (hv : All2 StrV ls vs) (h : Q (.bool (decide (l ∈ ls))) s) : wpAny (model prog w) A (compareOp .In (.str (mk l) t) (.ref D)) Q E s :=
  in_list_strs hl (strsAre hv) (by rw [any_mk]; exact h)
theorem r_ninL (hl : s.heap.IsList D vs.toArray) (hv : All2 StrV ls vs) (h : Q (.bool (!decide (l ∈ ls))) s) : wpAny (model prog w) A (compareOp .NotIn (.str (mk l) t) (.ref D)) Q E s :=
  notin_list_strs hl (strsAre hv) (by rw [any_mk]; exact h)
theorem r_addL (F : Fr h₀ L s.heap m) (N : News h₀ L s.heap news) (hl : s.heap.IsList D vs.toArray) (hb : s.heap.IsList D2 ws.toArray) (hz : vs.length + ws.length ≤ 100000)
    (h : ∀ a h', (∀ q ∈ news, q.1 < a) → Fr h₀ L h' m → News h₀ L h' ((a, W.listOf (vs ++ ws).toArray 0) :: news) → Q (.ref a) { s with heap := h' }) :
    wpAny (model prog w) A (binaryOp .Add (.ref D) (.ref D2)) Q E s :=
  add_lists F N hl hb (fun h' F' N' => h _ h' (fun q hq => Heap.lt_size (N q hq).1) F' N') (hsz := Nat.le_trans hz szl)
theorem r_isNotB {a b : Bool} (h : Q (.bool (a != b)) s) : wpAny (model prog w) A (compareOp .IsNot (.bool a) (.bool b)) Q E s := by
  cases a <;> cases b
  · exact wpAny_isNot_self (by rfl) h
  · exact wpAny_isNot_other (by rfl) (by intro x; cases x) h
  · exact wpAny_isNot_other (by rfl) (by intro x; cases x) h
  · exact wpAny_isNot_self (by rfl) h
end
/-- lists that stand: known at a heap -/
theorem isl_app {vs ws : List Value} {as bs : List (List Nat)} (h1 : All2 StrV as vs) (h2 : All2 StrV bs ws) : All2 StrV (as ++ bs) (vs ++ ws) := h1.app h2
inductive WkInv (h₀ : Heap) (L : Addr) (s : Shared) (n : Nat) (I : Addr) (St : Nat → Heap → Prop) (J : Nat → (PySem.Str → Option Value) → List (Addr × Obj) → Prop) (k : Nat) (s' : Shared) : Prop
  | is (h' : Heap) (tk : Nat) (m' : PySem.Str → Option Value) (news' : List (Addr × Obj)) (i : Nat) (io : Obj) (e : s' = { s with heap := h', toks := tk }) (hi : i ≤ n) (hk : k = n + 1 - i) (st : St i h') (F : Fr h₀ L h' m') (N : News h₀ L h' ((I, io) :: news')) (j : J i m' news') : WkInv h₀ L s n I St J k s'
section
variable {prog : Program} {w : World} {A : Around} {s : Shared} {env : Env} {h₀ : Heap} {m : PySem.Str → Option Value} {news : List (Addr × Obj)} {Qf : Flow → Shared → Prop}
/-- an iterator at hand: its walk stands in the heap -/
structure Walked (prog : Program) (w : World) (A : Around) (h₀ : Heap) (L : Addr) (I : Addr) (fp : List Addr) (n : Nat) (P : Nat → Value → Prop) (St : Nat → Heap → Prop) (h : Heap) (J : Nat → (PySem.Str → Option Value) → List (Addr × Obj) → Prop) : Prop where
  W : Walks prog w A I fp [I] n P St
  own : ∀ i h, St i h → ∃ o, h.get? I = some o ∧ o.cls ≠ .none
  st : St 0 h
  at' : ∀ b ∈ fp, b = I ∨ (∃ o, h₀.get? b = some o) ∨ (∃ o, ∀ i m news, J i m news → (b, o) ∈ news)
theorem for_walk {x : PySem.Str} {body : List Stmt} {I : Addr} {fp : List Addr} {n : Nat} {P : Nat → Value → Prop} {St : Nat → Heap → Prop} {io0 : Obj} (J : Nat → (PySem.Str → Option Value) → List (Addr × Obj) → Prop)
    (K : Walked prog w A h₀ env.locals I fp n P St s.heap J) (F : Fr h₀ env.locals s.heap m) (N : News h₀ env.locals s.heap ((I, io0) :: news)) (hJ : J 0 m news)
    (hI : ∀ i m news, J i m news → ∀ q ∈ news, q.1 ≠ I)
    (hx : env.kindOf x = some .local) (hp : (env.scope.kind == .class || (env.scope.kind == .module && env.locals != env.globals)) = false)
    (turn : ∀ io i v m₁ news₁ h₁ tk₁, io.cls ≠ .none → i < n → P i v → J i m₁ news₁ → Fr h₀ env.locals h₁ (fun y => if y = x then some v else m₁ y) → News h₀ env.locals h₁ ((I, io) :: news₁) →
      wpAny (model prog w) A (execs body env) (ForStep h₀ env.locals s I io (J (i + 1)) Qf) (fun _ _ => False) { s with heap := h₁, toks := tk₁ })
    (done : ∀ m₁ news₁ h₁ tk₁, J n m₁ news₁ → Fr h₀ env.locals h₁ m₁ → News h₀ env.locals h₁ news₁ → Qf .next { s with heap := h₁, toks := tk₁ }) :
    MyFor prog w A env x body Qf (.ref I) s := by
  obtain ⟨W0, own, st0, at0⟩ := K
  have hI0 : h₀.get? I = none := (N (I, io0) (.head _)).2.2
  have hIL : I ≠ env.locals := (N (I, io0) (.head _)).2.1
  have hL0 : h₀.get? env.locals = none := by
    cases e : h₀.get? env.locals with
    | none => rfl
    | some o => exact absurd (Heap.lt_size e) (Nat.not_lt.mpr F.above)
  refine ⟨I, WkInv h₀ env.locals s n I St J, n + 1, rfl, ⟨_, s.toks, m, news, 0, io0, rfl, Nat.zero_le _, rfl, st0, F, N, hJ⟩, ?_⟩
  rintro k s' ⟨h', tk, m', news', i, io, rfl, hi, rfl, hst, F', N', hj⟩
  have keepN : ∀ {h₁ : Heap}, (∀ b o, b ∉ [I] → h'.get? b = some o → h₁.get? b = some o) → Fr h₀ env.locals h₁ m' ∧ News h₀ env.locals h₁ news' := fun hk =>
    ⟨⟨F'.ns.at' fun o e => hk _ o (fun q => hIL (List.mem_singleton.mp q).symm) e, fun b o e => hk b o (fun q => by rw [List.mem_singleton.mp q, hI0] at e; cases e) (F'.keep b o e), F'.above⟩,
      fun p hp => ⟨hk _ _ (fun q => hI _ _ _ hj p hp (List.mem_singleton.mp q)) (N' p (.tail _ hp)).1, (N' p (.tail _ hp)).2⟩⟩
  have hLfp : env.locals ∉ fp := fun q => by
    rcases at0 _ q with h | ⟨o, h⟩ | ⟨o, h⟩
    · exact hIL h.symm
    · rw [hL0] at h; cases h
    · exact (N' _ (.tail _ (h _ _ _ hj))).2.1 rfl
  by_cases hlt : i < n
  · refine W0.item i _ _ _ hlt hst fun v h₁ tk₁ hP hst₁ hk₁ => ?_
    dsimp only
    obtain ⟨F₁, N₁⟩ := keepN hk₁
    obtain ⟨io₁, hio₁, hc₁⟩ := own _ _ hst₁
    refine wpAny_storeName_local hx F₁.ns (fun h₂ hn₂ hs₂ => ?_) hp
    have N₁' : News h₀ env.locals h₁ ((I, io₁) :: news') := fun p hp => by
      rcases List.mem_cons.mp hp with rfl | hp
      · exact ⟨hio₁, hIL, hI0⟩
      · exact N₁ p hp
    have F₂ := F₁.set hn₂ hs₂
    have N₂ := N₁'.set hs₂
    have hst₂ : St (i + 1) h₂ := W0.frame _ _ _ hst₁ fun b hb o e => hs₂.extBut b o (fun q => hLfp (by have q' : b = env.locals := q; rw [← q']; exact hb)) e
    refine wpAny_mono (turn io₁ i v m' news' h₂ _ hc₁ hlt hP hj F₂ N₂) (fun f s₃ h₃ => ?_) fun _ _ e => e
    have fin : ForMid h₀ env.locals (fun h tk => { s with heap := h, toks := tk }) I io₁ (J (i + 1)) s₃ → ∃ k', k' < n + 1 - i ∧ WkInv h₀ env.locals s n I St J k' s₃ := by
      rintro ⟨h₄, tk₄, m₂, news₂, e, F₃, N₃, hj₃⟩
      refine ⟨n + 1 - (i + 1), stepLt (Nat.le_of_lt (by assumption)), h₄, tk₄, m₂, news₂, i + 1, io₁, e, hlt, rfl, W0.frame _ _ _ hst₂ fun b hb o eb => ?_, F₃, N₃, hj₃⟩
      rcases at0 b hb with h | ⟨o', h⟩ | ⟨o', h⟩
      · subst h
        rw [(N₂ _ (.head _)).1] at eb; rw [(N₃ _ (.head _)).1]; exact eb
      · rw [F₂.keep _ _ h] at eb; rw [F₃.keep _ _ h]; exact eb
      · rw [(N₂ _ (.tail _ (h _ _ _ hj))).1] at eb; rw [(N₃ _ (.tail _ (h _ _ _ hj₃))).1]; exact eb
    cases f with
    | next => exact fin h₃
    | cont => exact fin h₃
    | brk => exact h₃
    | ret v => exact h₃
  · have hin : i = n := by (first | lia | omega)
    subst hin
    refine W0.done _ _ _ hst fun h₁ tk₁ hk₁ => ?_
    dsimp only
    obtain ⟨F₁, N₁⟩ := keepN hk₁
    exact done m' news' h₁ tk₁ hj F₁ N₁
end
section
variable {prog : Program} {w : World} {A : Around} {s : Shared} {env : Env} {h₀ : Heap} {m : PySem.Str → Option Value} {news : List (Addr × Obj)} {Qf : Flow → Shared → Prop}
theorem for_tup {x : PySem.Str} {body : List Stmt} {T : Addr} {oT : Obj} {items : Array Value} (J : Addr → Nat → (PySem.Str → Option Value) → List (Addr × Obj) → Prop)
    (F : Fr h₀ env.locals s.heap m) (N : News h₀ env.locals s.heap news) (hT : (T, oT) ∈ news) (hc : oT.cls = .type "tuple") (hd : ∃ n, oT.data = .seq items n) (hh : A.handled = none)
    (hx : env.kindOf x = some .local) (hp : (env.scope.kind == .class || (env.scope.kind == .module && env.locals != env.globals)) = false)
    (hJm : ∀ I i m news, J I i m news → (T, oT) ∈ news)
    (hJ : ∀ I, (∀ q ∈ news, q.1 < I) → J I 0 m news)
    (hI : ∀ I i m news, J I i m news → ∀ q ∈ news, q.1 ≠ I)
    (turn : ∀ I io i v m₁ news₁ h₁ tk₁, io.cls ≠ .none → items[i]? = some v → J I i m₁ news₁ → Fr h₀ env.locals h₁ (fun y => if y = x then some v else m₁ y) → News h₀ env.locals h₁ ((I, io) :: news₁) →
      wpAny (model prog w) A (execs body env) (ForStep h₀ env.locals s I io (J I (i + 1)) Qf) (fun _ _ => False) { s with heap := h₁, toks := tk₁ })
    (done : ∀ I m₁ news₁ h₁ tk₁, J I items.size m₁ news₁ → Fr h₀ env.locals h₁ m₁ → News h₀ env.locals h₁ news₁ → Qf .next { s with heap := h₁, toks := tk₁ }) :
    wpAny (model prog w) A (pyIter (.ref T)) (fun it s₂ => MyFor prog w A env x body Qf it s₂) (fun _ _ => False) s := by
  have ht : s.heap.IsTuple T items := ⟨oT, (N _ hT).1, hc, hd⟩
  have hlt : T < s.heap.objs.size := Heap.lt_size (N _ hT).1
  refine wpAny_pyIter_tuple ht ?_
  refine for_walk (io0 := { cls := .type "tuple_iterator", data := .fields #[.ref T, .int 0 0] }) (J s.heap.objs.size) ⟨PySem.Walks.tuple hh s.heap.objs.size T (Nat.ne_of_lt hlt) items, fun i h st => ?_, ⟨⟨_, Heap.get?_push_size _ rfl, rfl, rfl⟩, oT, Heap.get?_push_of_some _ (N _ hT).1, hc, hd⟩, fun b hb => ?_⟩ (F.push _) (N.push F _) (hJ _ fun q hq => Heap.lt_size (N q hq).1) (hI _) hx hp (fun io i v m₁ news₁ h₁ tk₁ hio hi hv hj F₁ N₁ => turn _ io i v m₁ news₁ h₁ tk₁ hio hv hj F₁ N₁) (done _)
  · obtain ⟨o, e, hc, _⟩ := st.1
    exact ⟨o, e, by rw [hc]; nofun⟩
  · rcases List.mem_cons.mp hb with rfl | hb
    · exact .inl rfl
    · rw [List.mem_singleton.mp hb]
      exact .inr (.inr ⟨oT, hJm _⟩)
end
section
variable {M : Model} {A : Around} {E : Value → Shared → Prop} {s : Shared} {h₀ : Heap} {L a c : Addr} {m : PySem.Str → Option Value} {news : List (Addr × Obj)} {cs : Scope} {cl : List (PySem.Str × Addr)} {ccd v : Value} {v₀ : Option Value} {x cn : PySem.Str} {o : Obj} {Q : Unit → Shared → Prop}
theorem r_storeC (F : Fr h₀ L s.heap m) (N : News h₀ L s.heap news) (hc : cl.lookup x = some c) (hm : (c, o) ∈ news) (hd : o.data = .cell v₀)
    (h : ∀ h' o', Fr h₀ L h' m → (∀ news', (∀ p ∈ news', p = (c, o') ∨ (p ∈ news ∧ p.1 ≠ c)) → News h₀ L h' news') → o'.data = .cell (some v) → Q () { s with heap := h' })
    (hk : autoParam (cs.kind = .function) rflAuto) (hx : autoParam ((envX cn cs L a ccd cl).kindOf x = some .cell) rflAuto) : wpAny M A (storeName (envX cn cs L a ccd cl) x v) Q E s := by
  have hmem := N (c, o) hm
  refine wpAny_storeName_cell hk hx hc ⟨o, hmem.1, hd⟩ fun h' hv hs => ?_
  obtain ⟨o', ho', hd'⟩ := hv
  refine h h' o' ⟨F.ns.sameBut hs (Ne.symm hmem.2.1), fun b ob e => (hs.2 b (fun q => ?_)).trans (F.keep b ob e), F.above⟩ (fun news' hn p hp => ?_) hd'
  · rw [q, hmem.2.2] at e; cases e
  · rcases hn p hp with rfl | ⟨h1, h2⟩
    · exact ⟨ho', hmem.2⟩
    · exact ⟨(hs.2 p.1 h2).trans (N p h1).1, (N p h1).2⟩
end
section
variable {prog : Program} {w : World} {A : Around} {E : Value → Shared → Prop} {s : Shared} {Q : Value → Shared → Prop}
/-- entry of a function with cells that leaves the table alone -/
theorem enterC {K : Frag} {p : Program} {loose : List PySem.Str} {mean : ExcName → Option Value} {mg mb : PySem.Str → Option Value} {name qual : PySem.Str} {params : Arguments} {body : List Stmt} {scope : Scope} {dV kV doc pm cdv ct oc : Value} {an od : Option Addr} {osl : Array (Option Value)} {f : Addr} {vals : List Value} {binds : List (PySem.Str × Value)}
    (X : K.In s.heap) (T : Top p loose mean mg mb s.heap)
    (ho : K.lookup f = some ⟨oc, od, .func (fnOf name qual params body scope dV kV doc pm an cdv ct), osl⟩) (hcd : codeIn K cdv qual = true) (hroom : A.depth < recursionLimit)
    (hbind : BindsTo s (fnOf name qual params body scope dV kV doc pm an cdv ct) ⟨vals, []⟩ binds)
    (hkind : ∀ n, ∀ x ∈ binds, scope.names.lookup x.1 = some .local ∨ (scope.names.lookup x.1 = some .cell ∧ ((cellsFrom n scope.names []).lookup x.1).isSome = true))
    (hnd : ((cellsFrom 0 scope.names []).map (·.1)).Nodup)
    (hco : scope.isCoroutine = false) (hgen : scope.isGenerator = false) (hk : scope.kind = .function)
    (h : ∀ L h₁ tk cells, Fr s.heap L h₁ (bindL (envOfC qual scope L f cdv).kindOf binds fun _ => none) → News s.heap L h₁ cells →
      CellsAre (bindC (envOfC qual scope L f cdv).kindOf binds fun _ => none) (cellsFrom (L + 1) scope.names []) cells →
      wpAny (model prog w) (A.deeper (envOfC qual scope L f cdv)) (execs body (envOfC qual scope L f cdv))
        (fun fl s' => Q (match fl with | .ret v => v | _ => .none) s') (fun _ _ => False) { s with heap := h₁, toks := tk }) :
    wpAny (model prog w) A (call (.ref f) vals) Q E s := by
  refine wpAny_call (codeAny_call_function hroom (X _ _ ho) rfl hco hgen rfl (codeRec_of X hcd) (hbind _ _ _ _ ?_))
  refine wpAny_newFunctionEnv_cells hk (hkind _) fun env' he s' x => ?_
  subst he
  refine ⟨T.nolimit.keeps x.toInCall.keep, codeAny_func ?_⟩
  obtain ⟨h₁, tk, rfl, _⟩ := x.done
  have hk₁ := x.toInCall.keep
  obtain ⟨cells, NC, Y⟩ := Cl.news (h₀ := s.heap) (Nat.le_refl _) fun n c hm => ⟨x.cell n c (lookup_of_mem_nodup (cellsFrom_names scope.names 0 (s.heap.objs.size + 1) [] [] rfl ▸ hnd) hm), x.above n c hm⟩
  exact wpAny_mono (h s.heap.objs.size h₁ tk cells ⟨x.toInCall.ns, hk₁, Nat.le_refl _⟩ NC Y) (fun fl s' hl => hl) fun _ _ y => y.elim
end
theorem fmodN (n k : Nat) : Int.fmod (n : Nat) (k : Nat) = ((n % k : Nat) : Int) := by rw [Int.fmod_eq_emod_of_nonneg _ (by (first | lia | omega))]; (first | lia | omega)
theorem fdivN (n k : Nat) : Int.fdiv (n : Nat) (k : Nat) = ((n / k : Nat) : Int) := by rw [Int.fdiv_eq_ediv_of_nonneg _ (by (first | lia | omega))]; (first | lia | omega)
section
variable {prog : Program} {w : World} {A : Around} {E : Value → Shared → Prop} {s : Shared} {Q : Value → Shared → Prop} {a b : Int} {x y : Nat} {t u : Tok}
theorem r_modN (ha : a = (x : Nat)) (hb : b = (y : Nat)) (hy : 0 < y) (h : ∀ t' k', Q (.int ((x % y : Nat) : Int) t') { s with toks := k' }) : wpAny (model prog w) A (binaryOp .Mod (.int a t) (.int b u)) Q E s := by
  subst ha hb
  refine mod_int' (by (first | lia | omega)) ?_
  rw [fmodN]; exact h _ _
theorem r_fdivN (ha : a = (x : Nat)) (hb : b = (y : Nat)) (hy : 0 < y) (hy2 : y < 1073741824) (h : ∀ t' k', Q (.int ((x / y : Nat) : Int) t') { s with toks := k' }) : wpAny (model prog w) A (binaryOp .FloorDiv (.int a t) (.int b u)) Q E s := by
  subst ha hb
  refine floordiv_int (by (first | lia | omega)) ?_ (.inl (PyProof.noPylong_small (show Int.natAbs (y : Int) < _ from hy2)))
  rw [fdivN]; exact h _ _
theorem r_powN (ha : a = (x : Nat)) (hb : b = (y : Nat)) (hx : x < 100) (hy2 : y < 100) (h : ∀ t' k', Q (.int ((x ^ y : Nat) : Int) t') { s with toks := k' }) : wpAny (model prog w) A (binaryOp .Pow (.int a t) (.int b u)) Q E s := by
  subst ha hb
  refine pow_int_small (Int.natCast_nonneg _) (by (first | lia | omega)) (show Int.natAbs (x : Int) < _ from Nat.lt_trans hx (by decide)) ?_
  have e : ((x : Nat) : Int) ^ (((y : Nat) : Int)).toNat = ((x ^ y : Nat) : Int) := by
    rw [Int.toNat_natCast]; push_cast; rfl
  rw [e]; exact h _ _
end

end
section
set_option Elab.async false
set_option maxRecDepth 100000
set_option maxHeartbeats 2000000
open PySem PySem.W PySem.Calls PySem.Builtin PyProof.Rows
/-- a pattern that the law hands over -/
structure GoodP (l : List Nat) (P : List It) : Prop where
  e : l = pat P
  l1 : (pat P).length ≤ 900
  l2 : (rtail false P).length ≤ 10000
  ok : ∀ i ∈ P, i.ok
  nss : noSS P
theorem ok_lits {P : List It} (h : P.all (fun i => match i with | .lit c => decide (c ∈ Esc.okc) | .cls c => decide (c = 42 ∨ c = 91) | _ => true) = true) : ∀ i ∈ P, i.ok := fun i hi => by
  have := List.all_eq_true.mp h i hi
  cases i with
  | lit c => exact (of_decide_eq_true this : c ∈ Esc.okc)
  | cls c => exact (of_decide_eq_true this : c = 42 ∨ c = 91)
  | star => trivial
  | any => trivial
theorem gp_1 : GoodP [42, 46, 55] [.star, .lit 46, .lit 55] := ⟨rfl, by decide, by decide, ok_lits (by decide), trivial⟩
theorem gp_2 : GoodP [42, 46, 55, 55] [.star, .lit 46, .lit 55, .lit 55] := ⟨rfl, by decide, by decide, ok_lits (by decide), trivial⟩
theorem gp_3 : GoodP [42, 46, 55, 55, 55] [.star, .lit 46, .lit 55, .lit 55, .lit 55] := ⟨rfl, by decide, by decide, ok_lits (by decide), trivial⟩
theorem gp_4 : GoodP [42, 46, 55, 55, 55, 55] [.star, .lit 46, .lit 55, .lit 55, .lit 55, .lit 55] := ⟨rfl, by decide, by decide, ok_lits (by decide), trivial⟩
theorem gp_5 : GoodP [46, 42] [.lit 46, .star] := ⟨rfl, by decide, by decide, ok_lits (by decide), trivial⟩
theorem gp_6 : GoodP [42, 46] [.star, .lit 46] := ⟨rfl, by decide, by decide, ok_lits (by decide), trivial⟩
theorem gp_7 : GoodP [63, 42] [.any, .star] := ⟨rfl, by decide, by decide, ok_lits (by decide), trivial⟩
theorem gp_8 : GoodP [42, 46, 42, 46, 42] [.star, .lit 46, .star, .lit 46, .star] := ⟨rfl, by decide, by decide, ok_lits (by decide), trivial⟩
theorem gp_9 : GoodP [42, 46, 108, 111, 99, 97, 108] [.star, .lit 46, .lit 108, .lit 111, .lit 99, .lit 97, .lit 108] := ⟨rfl, by decide, by decide, ok_lits (by decide), trivial⟩
/-- what _law_kept gives -/
noncomputable def kept (P : List It) (ns : List (List Nat)) : List (List Nat) := ns.filter (takes (grp P))
theorem kept_len (P : List It) (ns : List (List Nat)) : (kept P ns).length ≤ ns.length := List.length_filter_le _ _
noncomputable def barredL (ks : List (List Nat)) : List (List Nat) := kept [.star, .lit 46, .lit 55] ks ++ kept [.star, .lit 46, .lit 55, .lit 55] ks ++ kept [.star, .lit 46, .lit 55, .lit 55, .lit 55] ks ++ kept [.star, .lit 46, .lit 55, .lit 55, .lit 55, .lit 55] ks
noncomputable def outL (ks : List (List Nat)) : List (List Nat) := barredL ks ++ kept [.lit 46, .star] ks ++ kept [.star, .lit 46] ks
noncomputable def namedL (ks : List (List Nat)) : List (List Nat) := (kept [.any, .star] ks).filter fun t => !decide (t ∈ outL ks)
section
variable {prog : Program} {w : World} {A : Around} {E : Value → Shared → Prop} {s : Shared} {Q : Value → Shared → Prop} {mg mb : PySem.Str → Option Value} {l : List Nat} {t : Tok}
theorem c_keptG {P : List It} {Nm : Addr} {ns : List (List Nat)} {nv : List Value} (g : GoodP l P) (hN : s.heap.IsList Nm nv.toArray) (hn : All2 StrV ns nv) (W0 : Wd w mg mb s.heap) (hd : A.depth + 3 < recursionLimit) (hh : A.handled = none)
    (hz : ns.length ≤ 1000) (hnz : ∀ n ∈ ns, n.length ≤ 1000)
    (hQ : ∀ h' r kv n tk', Ext7 s.heap h' → Wd w mg mb h' → h'.get? r = some (W.listOf (kv : List Value).toArray n) → s.heap.get? r = none → All2 StrV (kept P ns) kv → kv.length ≤ ns.length → Q (.ref r) { s with heap := h', toks := tk' }) :
    wpAny (model prog w) A (call (.ref 152) [.str (mk l) t, .ref Nm]) Q E s := by
  obtain ⟨rfl, l1, l2, ok, nss⟩ := g
  exact c_kept W0 hd hh l1 l2 ok nss hN hn hz hnz fun h' r kv n tk' a b c d e => hQ h' r kv n tk' a b c d e (by rw [← e.len]; exact List.length_filter_le _ _)
end
noncomputable def bars : List (List It) := [[.star, .lit 46, .lit 55], [.star, .lit 46, .lit 55, .lit 55], [.star, .lit 46, .lit 55, .lit 55, .lit 55], [.star, .lit 46, .lit 55, .lit 55, .lit 55, .lit 55]]
theorem barredL_eq (ks : List (List Nat)) : (bars.take 4).flatMap (fun P => kept P ks) = barredL ks := by simp [bars, barredL]
theorem bars_step {ks : List (List Nat)} {i : Nat} {P : List It} (h : bars[i]? = some P) : (bars.take (i + 1)).flatMap (fun P => kept P ks) = (bars.take i).flatMap (fun P => kept P ks) ++ kept P ks := by
  rw [List.take_add_one, h, List.flatMap_append]; simp
theorem bars_len (ks : List (List Nat)) (i : Nat) : ((bars.take i).flatMap (fun P => kept P ks)).length ≤ 4 * ks.length := by
  have h : ∀ l : List (List It), (l.flatMap (fun P => kept P ks)).length ≤ l.length * ks.length := fun l => by
    induction l with
    | nil => simp
    | cons a r ih =>
      have := kept_len a ks
      rw [List.flatMap_cons, List.length_append, List.length_cons, Nat.add_mul]; (first | lia | omega)
  have h1 := h (bars.take i)
  have h2 : (bars.take i).length ≤ 4 := by rw [List.length_take]; exact Nat.min_le_right _ _
  exact Nat.le_trans h1 (Nat.mul_le_mul_right _ h2)
theorem barredL_len (ks : List (List Nat)) : (barredL ks).length ≤ 4 * ks.length := by rw [← barredL_eq]; exact bars_len ks 4
inductive BarJ (ks : List (List Nat)) (Kn c : Addr) (co : Obj) (T : Addr) (oT : Obj) (I : Addr) (i : Nat) (m : PySem.Str → Option Value) (news : List (Addr × Obj)) : Prop
  | is (b bv kb ps : _) (x1_ : Okps ps) (x2_ : news = [(b, W.listOf (bv : List Value).toArray kb), (T, oT), (c, co), (97, tabObj ps)]) (x3_ : b ≠ I) (x4_ : T ≠ I) (x5_ : c ≠ I) (x6_ : 97 ≠ I) (x7_ : b ≠ c) (x8_ : All2 StrV ((bars.take i).flatMap (fun P => kept P ks)) bv) (x9_ : m (PySem.Str.ofString "barred") = some (.ref b)) (x10_ : m (PySem.Str.ofString "known") = some (.ref Kn)) : BarJ ks Kn c co T oT I i m news
theorem swapLed {a b : Addr × Obj} {r : List (Addr × Obj)} : ∀ p ∈ b :: a :: r, p ∈ a :: b :: r := fun p hp => by
  rcases List.mem_cons.mp hp with h | h
  · exact .tail _ (h ▸ .head _)
  · rcases List.mem_cons.mp h with h | h
    · exact h ▸ .head _
    · exact .tail _ (.tail _ h)

end
section
set_option Elab.async false
set_option maxRecDepth 100000
set_option maxHeartbeats 2000000
open PySem PySem.W PySem.Calls PySem.Builtin PyProof.Rows PySem.SeqAt
theorem units_in1 (A : Around) : A.in1.units ≤ A.units + 1 := by
  cases A; first | exact Nat.le_refl _ | decide | (show _ ≤ _; simp [Around.in1])
section
variable {A : Around} {s : Shared} {ls ms : List (List Nat)} {vs ws : List Value} {l b : Addr}
theorem eqStr (x y : List Nat) (t u : Tok) : EqAt A s (.str (mk x) t) (.str (mk y) u) (decide (x = y)) := fun prog w E Q h =>
  eqBool_str (by
    have e : ((mk x : PySem.Str) == mk y) = decide (x = y) := by
      rw [Bool.eq_iff_iff, beq_iff_eq, decide_eq_true_eq]
      exact ⟨fun h => by have := congrArg (fun z : PySem.Str => z.cps.toList) h; simpa using this, fun h => by rw [h]⟩
    rw [e]; exact h)
theorem eqStrLists (hl : s.heap.IsList l vs.toArray) (hb : s.heap.IsList b ws.toArray) (hv : All2 StrV ls vs) (hw : All2 StrV ls ws) (hu : A.units < cLine) : EqAt A s (.ref l) (.ref b) true := by
  by_cases e : l = b
  · subst e; exact EqAt.same _
  · have hsz : vs.length = ws.length := by rw [← hv.len, hw.len]
    have h := RcAt.lists (e := fun _ => true) hl hb (by simpa using hsz) hu fun j h1 h2 => by
      have hj1 : j < vs.length := by simpa using h1
      have hj0 : j < ls.length := by rw [hv.len]; exact hj1
      obtain ⟨v, a1, t, a2⟩ := hv.get (i := j) (a := ls[j]) (by simp [hj0])
      obtain ⟨v', b1, t', b2⟩ := hw.get (i := j) (a := ls[j]) (by simp [hj0])
      have e1 : vs.toArray[j] = v := by have := (List.getElem?_eq_some_iff.mp a1).2; simpa using this
      have e2 : ws.toArray[j] = v' := by have := (List.getElem?_eq_some_iff.mp b1).2; simpa using this
      rw [e1, e2, a2, b2]
      have := eqStr (A := A.in1) (s := s) ls[j] ls[j] t t'
      rwa [decide_eq_true rfl] at this
    have e2 : (List.range vs.toArray.size).all (fun _ => true) = true := by simp
    rw [e2] at h
    exact EqAt.of_refs e h
theorem r_eqPairs {prog : Program} {w : World} {E : Value → Shared → Prop} {Q : Value → Shared → Prop} {t u a1 a2 b1 b2 : Addr} {x1 x2 y1 y2 : List Value} {l1 l2 : List (List Nat)} (ht : s.heap.IsTuple t #[.ref a1, .ref a2]) (hu : s.heap.IsTuple u #[.ref b1, .ref b2])
    (h1 : s.heap.IsList a1 x1.toArray) (h2 : s.heap.IsList a2 x2.toArray) (h3 : s.heap.IsList b1 y1.toArray) (h4 : s.heap.IsList b2 y2.toArray) (e1 : All2 StrV l1 x1) (e2 : All2 StrV l2 x2) (e3 : All2 StrV l1 y1) (e4 : All2 StrV l2 y2) (hun : A.units + 2 < cLine) (hQ : Q (.bool true) s) :
    wpAny (model prog w) A (compareOp .Eq (.ref t) (.ref u)) Q E s := by
  have hin : A.in1.units < cLine := by have := units_in1 A; (first | lia | omega)
  refine eq_tupleAt (e := fun _ => true) ht hu (by (first | lia | omega)) (fun j hj1 hj2 => ?_) (by rw [show ((List.range (min (#[Value.ref a1, .ref a2] : Array Value).size (#[Value.ref b1, .ref b2] : Array Value).size)).all (fun _ => true) && (#[Value.ref a1, .ref a2] : Array Value).size == (#[Value.ref b1, .ref b2] : Array Value).size) = true from rfl]; exact hQ)
  rcases j with _ | _ | j
  · exact eqStrLists h1 h3 e1 e3 hin
  · exact eqStrLists h2 h4 e2 e4 hin
  · simp at hj1; (first | lia | omega)
end
/-- heaps that differ in the slots of some frames alone -/
structure SameS (fs : List Addr) (h h' : Heap) : Prop where
  other : ∀ b o, h.get? b = some o → b ∉ fs → h'.get? b = some o
  frame : ∀ b o, h.get? b = some o → b ∈ fs → ∃ sl, h'.get? b = some { o with slots := sl }
noncomputable abbrev fsOf (outer : List Env) : List Addr := outer.filterMap (·.frame)
section
variable {prog : Program} {w : World} {A : Around} {E : Value → Shared → Prop} {s : Shared} {Q : Value → Shared → Prop} {h₀ : Heap} {L l : Addr} {m : PySem.Str → Option Value} {news : List (Addr × Obj)} {vs : List Value}
theorem r_listL (F : Fr h₀ L s.heap m) (N : News h₀ L s.heap news) (hl : s.heap.IsList l vs.toArray) (hz : vs.length ≤ 100000)
    (h : ∀ D c h', (∀ q ∈ news, q.1 < D) → Fr h₀ L h' m → News h₀ L h' ((D, PySem.W.listOf vs.toArray c) :: news) → Q (.ref D) { s with heap := h' }) : wpAny (model prog w) A (call (.type "list") [.ref l]) Q E s := by
  obtain ⟨o, ho, hc, n, hd⟩ := hl
  refine call_list_seq (hsz := by rw [List.size_toArray]; exact Nat.le_trans hz szl) l (.inl rfl) ho hc hd fun h' c' hk hD => h _ c' h' (fun q hq => Heap.lt_size (N q hq).1) (F.keeps hk) fun p hp => ?_
  rcases List.mem_cons.mp hp with rfl | hp
  · exact ⟨hD, fun q => absurd F.ns.lt (Nat.not_lt.mpr (Nat.le_of_eq q)), none_at_size F⟩
  · exact ⟨hk _ _ (N p hp).1, (N p hp).2⟩
end

end
section
set_option Elab.async false
set_option maxRecDepth 100000
set_option maxHeartbeats 2000000
open PySem PySem.W PySem.Calls PySem.Builtin PyProof.Rows
namespace Xc
/-- a fresh IndexError, raised while `cx` is handled -/
structure NewX (h h' : Heap) (e : Addr) (cx : Value) : Prop where
  keeps : ∀ b o, h.get? b = some o → h'.get? b = some o
  new : h.get? e = none
  there : ∃ t, h'.get? e = some { cls := .type "IndexError", dict := none, data := .fields #[t, .none, cx, .none, .bool false, .none], slots := #[] }
/-- what is handled when it is raised -/
noncomputable def Cx (A : Around) (h : Heap) (cx : Value) : Prop := (A.handled = none ∧ cx = .none) ∨ ∃ e o vs, A.handled = some (.ref e) ∧ cx = .ref e ∧ h.get? e = some o ∧ o.data = .fields vs ∧ vs[2]? = some .none
theorem entry_unchain : entryFor table "proto.unchain" = some Builtin.«proto.unchain» := entryFor_of_fast (by kernel_rfl)
theorem plain_unchain : plainId "proto.unchain" = true := by decide +kernel
section
variable {prog : Program} {w : World} {A : Around} {E : Value → Shared → Prop} {s : Shared}
theorem raise_words {α : Type} {msg : String} {cx : Value} {Q : α → Shared → Prop} (hc : Cx A s.heap cx)
    (h : ∀ h' tk e, NewX s.heap h' e cx → E (.ref e) { s with heap := h', toks := tk }) : wpAny (model prog w) A (raiseErrorWords "IndexError" msg : Sem α) Q E s := by
  have hp := plainExc_IndexError
  unfold raiseErrorWords
  refine wpAny_bind (wpAny_mkText (wpAny_bind ?_))
  unfold newExc newTuple
  refine wpAny_bind (wpAny_newObj_type ?_)
  refine wpAny_bind (m := firstArgMember _ _) (wpAny_of_eq (a := Value.none) (by simp only [firstArgMember, hp.first]; rfl) ?_)
  rw [hp.own]
  refine wpAny_newObj_type ?_
  unfold raiseNew
  refine wpAny_bind (wpAny_handled ?_)
  rcases hc with ⟨hh, rfl⟩ | ⟨e1, o, vs, hh, rfl, ho, hd, h2⟩
  · rw [hh]
    first
      | refine wpAny_throw ?_
      | refine wpAny_bind (wpAny_pure (wpAny_throw ?_))
    exact h _ _ _ ⟨fun b o hb => Heap.get?_push_of_some _ (Heap.get?_push_of_some _ hb), Heap.get?_none_of_le (by simp), .ref s.heap.objs.size, Heap.get?_push_size _ rfl⟩
  · rw [hh]
    have hlt := Heap.lt_size ho
    have ho2 := Heap.get?_push_of_some (h := s.heap.push { cls := .type "tuple", data := .seq [Value.str (Str.ofString msg) s.toks].toArray }) { cls := .type "IndexError", data := .fields #[.ref s.heap.objs.size, .none, .none, .none, .bool false, .none] } (Heap.get?_push_of_some { cls := .type "tuple", data := .seq [Value.str (Str.ofString msg) s.toks].toArray } ho)
    have hn2 := Heap.get?_push_size (s.heap.push { cls := .type "tuple", data := .seq [Value.str (Str.ofString msg) s.toks].toArray }) (o := { cls := .type "IndexError", data := .fields #[.ref s.heap.objs.size, .none, .none, .none, .bool false, .none] }) rfl
    have hne : e1 ≠ (s.heap.push { cls := .type "tuple", data := .seq [Value.str (Str.ofString msg) s.toks].toArray }).objs.size := by rw [Heap.size_push]; exact Nat.ne_of_lt (Nat.lt_succ_of_lt hlt)
    dsimp only
    rw [if_pos (show (Value.ref e1 != Value.ref _) = true from by simp only [bne_iff_ne, ne_eq, Value.ref.injEq]; exact hne)]
    refine wpAny_bind (wpAny_holding (wpAny_runValue (codeAny_builtin entry_unchain ?_)))
    rw [Around.under_plainId plain_unchain _]
    unfold Builtin.«proto.unchain»
    dsimp only
    refine wpAny_bind (wpAny_field ho2 hd h2 ?_)
    refine wpAny_pure ?_
    show wpAny (model prog w) A (setField (.ref (s.heap.push { cls := .type "tuple", data := .seq [Value.str (Str.ofString msg) s.toks].toArray }).objs.size) 2 (.ref e1) >>= fun _ => throw _) Q E _
    refine wpAny_bind (wpAny_setField hn2 rfl (by simp) (wpAny_throw ?_))
    refine h _ _ _ ⟨fun b o' hb => ?_, Heap.get?_none_of_le (by simp), .ref s.heap.objs.size, Heap.get?_update_self _ hn2 (by rfl)⟩
    refine (Heap.get?_update_other _ _ fun q => ?_).trans (Heap.get?_push_of_some _ (Heap.get?_push_of_some _ hb))
    have := Heap.lt_size hb
    rw [← q, Heap.size_push] at this
    exact Nat.lt_irrefl _ (Nat.lt_of_succ_lt this)
theorem cxIn {cx0 : Value} {h : Heap} (hc : Cx A h cx0) : Cx A.in1 h cx0 := hc
theorem raise_at {value slice : PySem.Expr} {i : Int} {j : Nat} {u : Tok} {D : Addr} {its : Array Value} {cx : Value} {Q : Value → Shared → Prop} (hc : Cx A s.heap cx) (hl : s.heap.IsList D its) (hz : its.size ≤ 100000) (hj : its[j]? = none) (hi : i = j) (hz2 : j ≤ 100000)
    (h : ∀ h' tk e, NewX s.heap h' e cx → E (.ref e) { s with heap := h', toks := tk })
    (hs : autoParam (subscripted slice false (.ref D) (.int i u) = operate [.ref D, .int i u] (getItem (.ref D) (.int i u))) wuAuto) :
    wpAny (model prog w) A (subscriptTail value slice (.ref D) (.int i u)) Q E s := by
  have h0 : 0 ≤ i := by (first | lia | omega)
  have hfit : i < 2 ^ 63 := by (first | lia | omega)
  refine tail_any hl.typeIs slot_list_getitem.lookup ?_ hs
  obtain ⟨o, ho, hcl, ne, hd⟩ := id hl
  unfold getItem
  try with_reducible refine wpAny_holding ?_
  first | refine wpAny_bind (wpAny_pure ?_) | skip
  refine wpAny_bind (wpAny_sequenceKey hl.typeIs (by decide) ?_)
  refine wpAny_bind (wpAny_callSpecial?_slot (name := Str.ofString "__getitem__") hl.typeIs slot_list_getitem
    (wpAny_call_entry slot_list_getitem hl.typeIs entry_list_getitem ?_ (args_list_getitem _ _)))
  show wpAny _ _ (Builtin.List.listSubscript? (.int i u) >>= _) _ _ s
  refine wpAny_bind (wpAny_listSubscript_int (fitsIndex_of h0 hfit) ?_)
  clear hfit h0
  subst hi
  show wpAny _ _ ((seqItemAt D j >>= fun r => pure (r.map (j, ·))) >>= _) _ _ s
  refine wpAny_bind (wpAny_bind (wpAny_seqItemAt ho hd (wpAny_pure ?_)))
  rw [hj]
  dsimp only [Option.map]
  refine wpAny_bind (wpAny_rule ?_)
  exact wpAny_bind (raise_words (A := A.in1) (cxIn hc) h)
end
end Xc

end
section
set_option Elab.async false
set_option maxRecDepth 100000
set_option maxHeartbeats 2000000
open PySem PySem.W PySem.Calls PySem.Builtin PyProof.Rows
namespace Xc
/-- an exception that flies in the function's own frame: it and its traceback stand in front of the ledger -/
inductive Fly (fs : List Addr) (g₀ : Heap) (L : Addr) (m : PySem.Str → Option Value) (news : List (Addr × Obj)) (cx fl : Value) (e : Addr) (h : Heap) : Prop
  | is (g T oe oT vs ts : _) (x1_ : KtsTurn fs g₀ g) (x2_ : Fr g L h m) (x3_ : News g L h ((e, oe) :: (T, oT) :: news)) (x4_ : T ≠ e) (x5_ : (∀ q ∈ news, q.1 ≠ e ∧ q.1 ≠ T)) (x6_ : oe.cls = .type "IndexError") (x7_ : oe.data = .fields vs) (x8_ : vs[1]? = some (.ref T)) (x9_ : vs[2]? = some cx) (x10_ : oT.data = .fields ts) (x11_ : ts[3]? = some fl) : Fly fs g₀ L m news cx fl e h
theorem fsE {name : PySem.Str} {scope : Scope} {L a : Addr} {cd : Value} {outer : List Env} : (envOf name scope L a cd :: outer).filterMap (·.frame) = L :: fsOf outer := by simp [fsOf, envOf]
section
variable {M : Model} {prog : Program} {w : World} {A A₀ : Around} {E : Value → Shared → Prop} {s : Shared} {base g g₀ h : Heap} {outer : List Env} {L a e : Addr} {m : PySem.Str → Option Value} {name : PySem.Str} {scope : Scope} {cd cx fl : Value} {news : List (Addr × Obj)} {fs : List Addr}
theorem note_new {Q : Unit → Shared → Prop} (B : Below A₀ base outer g) (D : KtsDicts (fsOf outer) g) (F : Fr g L h m) (N : News g L h news) (X : NewX h s.heap e cx)
    (hfr : A.frames = some (envOf name scope L a cd :: outer)) (hk : scope.kind = .function)
    (k : ∀ h', Fly (fsOf outer) g L m news cx (rawInt L) e h' → Q () { s with heap := h' }) : wpAny M A (noteFrame (.ref e) (envOf name scope L a cd)) Q E s := by
  obtain ⟨t, he⟩ := X.there
  have B1 := B.push (name := name) (a := a) (cd := cd) F hk
  have hl : s.heap.FunFrames base (envOf name scope L a cd :: outer) := B1.frames.of_keeps fun b o hb _ => ⟨o, X.keeps b o hb, rfl⟩
  unfold noteFrame
  simp only [show (envOf name scope L a cd).frame = some L from rfl]
  have h1 : (#[t, Value.none, cx, .none, .bool false, .none] : Array Value)[1]? = some .none := rfl
  refine wpAny_bind (wpAny_field he rfl h1 ?_)
  rw [if_neg (by decide)]
  refine wpAny_bind (wpAny_frameOf_fun hfr hl rfl fun h₁ hs₁ => ?_)
  refine wpAny_bind (wpAny_entryPlaceOf fun pl hpl => ?_)
  unfold EntryCells.newEntry newFields
  refine wpAny_bind (wpAny_newObj_type ?_ (hpl.sizeOk5 _ _ _ _ _))
  rw [fsE] at hs₁
  have hgL : g.get? L = none := kts_self F
  have hge : g.get? e = none := by
    cases q : g.get? e with
    | none => rfl
    | some o => have := F.keep _ _ q; rw [X.new] at this; cases this
  have hLf : L ∉ fsOf outer := fun q => by obtain ⟨o, _, _, ho, _⟩ := D L q; rw [hgL] at ho; cases ho
  have hLe : e ≠ L := fun q => by
    obtain ⟨o, _, _, ho, _⟩ := F.ns
    rw [← q, X.new] at ho; cases ho
  have hef : e ∉ fsOf outer := fun q => by obtain ⟨o, _, _, ho, _⟩ := D e q; rw [hge] at ho; cases ho
  have he₁ := (hs₁.2.1 e (fun q => (List.mem_cons.mp q).elim hLe hef)).trans he
  generalize hoT : ({ cls := .type "traceback", dict := none, data := .fields ([Value.none, .ref L, .none, rawInt L, .none] ++ (if pl.isEmpty then List.replicate 6 Value.none else pl)).toArray } : Obj) = oT
  have hoT' : oT.data = .fields ([Value.none, .ref L, .none, rawInt L, .none] ++ (if pl.isEmpty then List.replicate 6 Value.none else pl)).toArray := by rw [← hoT]
  have hT3 : ([Value.none, .ref L, .none, rawInt L, .none] ++ (if pl.isEmpty then List.replicate 6 Value.none else pl)).toArray[3]? = some (rawInt L) := by simp
  have he₂ := Heap.get?_push_of_some (h := h₁) oT he₁
  have hfree : oT.isFreed = false := Obj.isFreed_of_fields hoT'
  clear hoT
  refine wpAny_setField he₂ rfl (by show 1 < _; simp) ?_
  generalize hT : h₁.objs.size = T
  have hsz : h₁.objs.size = s.heap.objs.size := hs₁.1
  have hTe : T ≠ e := hT ▸ Nat.ne_of_gt (Heap.lt_size he₁)
  have hsT : s.heap.get? T = none := Heap.get?_none_of_le (by rw [← hT, hsz]; exact Nat.le_refl _)
  have hhT : h.get? T = none := by
    cases q : h.get? T with
    | none => rfl
    | some o => have := X.keeps _ _ q; rw [hsT] at this; cases this
  have hgT : g.get? T = none := by
    cases q : g.get? T with
    | none => rfl
    | some o => have := F.keep _ _ q; rw [hhT] at this; cases this
  have keep : ∀ b o, b ≠ e → h₁.get? b = some o → ((h₁.push oT).update e (Obj.mapFields (·.setIfInBounds 1 (Value.ref T)))).get? b = some o := fun b o hbe hb => by
    rw [Heap.get?_update_other _ _ (Ne.symm hbe)]
    exact Heap.get?_push_of_some _ hb
  have other : ∀ b o, h.get? b = some o → b ∉ L :: fsOf outer → ((h₁.push oT).update e (Obj.mapFields (·.setIfInBounds 1 (Value.ref T)))).get? b = some o := fun b o hb hn =>
    keep b o (fun q => by rw [q, X.new] at hb; cases hb) ((hs₁.2.1 b hn).trans (X.keeps b o hb))
  have slots : ∀ b o, h.get? b = some o → ∃ sl, ((h₁.push oT).update e (Obj.mapFields (·.setIfInBounds 1 (Value.ref T)))).get? b = some { o with slots := sl } := fun b o hb => by
    obtain ⟨sl, hs⟩ := hs₁.2.2 b o (X.keeps b o hb)
    exact ⟨sl, keep b _ (fun q => by rw [q, X.new] at hb; cases hb) hs⟩
  obtain ⟨TT, S⟩ := kts_turn_at (fs := fsOf outer) (g := g) (h := (h₁.push oT).update e (Obj.mapFields (·.setIfInBounds 1 (Value.ref T)))) (fun b hb => by obtain ⟨o, _, _, ho, _⟩ := D b hb; exact ⟨o, ho⟩)
    (fun b o eb hb => other b o (F.keep b o eb) fun q => by
      rcases List.mem_cons.mp q with rfl | q
      · rw [hgL] at eb; cases eb
      · exact hb q)
    (fun b o eb hb => slots b o (F.keep b o eb))
  have hT₃ : ((h₁.push oT).update e (Obj.mapFields (·.setIfInBounds 1 (Value.ref T)))).get? T = some oT := (Heap.get?_update_other _ _ (Ne.symm hTe)).trans (hT ▸ Heap.get?_push_size h₁ hfree)
  have he₃ : ((h₁.push oT).update e (Obj.mapFields (·.setIfInBounds 1 (Value.ref T)))).get? e = some { cls := .type "IndexError", dict := none, data := .fields #[t, .ref T, cx, .none, .bool false, .none], slots := #[] } := Heap.get?_update_self _ he₂ rfl
  refine k _ ⟨_, T, { cls := .type "IndexError", dict := none, data := .fields #[t, .ref T, cx, .none, .bool false, .none], slots := #[] }, oT, #[t, .ref T, cx, .none, .bool false, .none], _, TT, ⟨?_, S, ?_⟩, fun p hp => ?_, hTe, fun q hq => ⟨fun c => ?_, fun c => ?_⟩, rfl, rfl, rfl, rfl, hoT', hT3⟩
  · obtain ⟨o, es, n, ho, hd, r⟩ := F.ns
    obtain ⟨sl, hs⟩ := slots _ _ ho
    exact ⟨_, es, n, hs, hd, r⟩
  · rw [TT.size]; exact F.above
  · rcases List.mem_cons.mp hp with rfl | hp
    · exact ⟨he₃, hLe, TT.none_ _ hge⟩
    · rcases List.mem_cons.mp hp with rfl | hp
      · refine ⟨hT₃, fun q => ?_, TT.none_ _ hgT⟩
        obtain ⟨o, _, _, ho, _⟩ := F.ns
        have q' : T = L := q
        rw [← q', hhT] at ho; cases ho
      · refine ⟨other _ _ (N p hp).1 fun q => ?_, (N p hp).2.1, TT.none_ _ (N p hp).2.2⟩
        rcases List.mem_cons.mp q with q | q
        · exact (N p hp).2.1 q
        · obtain ⟨o, _, _, ho, _⟩ := D _ q
          rw [(N p hp).2.2] at ho; cases ho
  · have := (N q hq).1; rw [c, X.new] at this; cases this
  · have := (N q hq).1; rw [c, hhT] at this; cases this
theorem flight {f : Option Addr} {Q : Unit → Shared → Prop} (X : Fly fs g L m news cx fl e s.heap) (k : ∀ h', Fly fs g L m news cx (f.elim .none fun f => rawInt f) e h' → Q () { s with heap := h' }) : wpAny M A (setFlight (.ref e) f) Q E s := by
  obtain ⟨g', T, oe, oT, vs, ts, TT, F, N, hTe, hn, hc, hd, h1, h2, hdT, h3⟩ := X
  have he := N _ (.head _)
  have hT := N _ (.tail _ (.head _))
  have hsz3 : 3 < ts.size := (Array.getElem?_eq_some_iff.mp h3).1
  unfold setFlight
  refine wpAny_bind (wpAny_field he.1 hd h1 ?_)
  rw [if_pos (show (Value.ref T != Value.none) = true from by simp)]
  refine wpAny_setField hT.1 hdT hsz3 (k _ ?_)
  have sb : Heap.SameBut T s.heap (s.heap.update T (Obj.mapFields (·.setIfInBounds 3 (f.elim .none fun f => rawInt f)))) := Heap.SameBut.update ..
  refine ⟨g', T, oe, Obj.mapFields (·.setIfInBounds 3 (f.elim .none fun f => rawInt f)) oT, vs, ts.setIfInBounds 3 (f.elim .none fun f => rawInt f), TT, F.change sb hT.2.1 hT.2.2, fun p hp => ?_, hTe, hn, hc, hd, h1, h2, Obj.data_mapFields hdT _, by rw [Array.getElem?_setIfInBounds_self_of_lt hsz3]⟩
  rcases List.mem_cons.mp hp with rfl | hp
  · exact ⟨(sb.2 _ (Ne.symm hTe)).trans he.1, he.2⟩
  · rcases List.mem_cons.mp hp with rfl | hp
    · exact ⟨Heap.get?_update_self _ hT.1 (Obj.isFreed_of_fields (Obj.data_mapFields hdT _)), hT.2⟩
    · have := N p (.tail _ (.tail _ hp))
      exact ⟨(sb.2 _ (hn p hp).2).trans this.1, this.2⟩
theorem note_again {Q : Unit → Shared → Prop} (X : Fly fs g L m news cx (rawInt L) e s.heap) (k : Q () s) : wpAny M A (noteFrame (.ref e) (envOf name scope L a cd)) Q E s := by
  obtain ⟨g', T, oe, oT, vs, ts, TT, F, N, hTe, hn, hc, hd, h1, h2, hdT, h3⟩ := X
  unfold noteFrame
  simp only [show (envOf name scope L a cd).frame = some L from rfl]
  refine wpAny_bind (wpAny_field (N _ (.head _)).1 hd h1 ?_)
  rw [if_pos (show (Value.ref T != Value.none) = true from by simp)]
  refine wpAny_bind (wpAny_field (N _ (.tail _ (.head _))).1 hdT h3 ?_)
  rw [if_pos (show (rawInt L == rawInt L) = true from by simp)]
  exact wpAny_pure k
theorem came (X : Fly fs g L m news cx fl e s.heap) (k : ∀ h', Fly fs g L m news cx (rawInt L) e h' → E (.ref e) { s with heap := h' }) : cameBackBy M A (envOf name scope L a cd) E (.ref e) s := by
  obtain ⟨g', T, oe, oT, vs, ts, TT, F, N, hTe, hn, hc, hd, h1, h2, hdT, h3⟩ := id X
  unfold cameBackBy
  refine wpAny_bind (wpAny_field (N _ (.head _)).1 hd h1 ?_)
  rw [if_neg (by simp)]
  exact flight X k
theorem pass {α : Type} {what : String} {Q : α → Shared → Prop} (X : Fly fs g L m news cx fl e s.heap) (k : ∀ h', Fly fs g L m news cx (rawInt L) e h' → E (.ref e) { s with heap := h' }) : wpAny M A (PySem.passOn what (.ref e) (envOf name scope L a cd) : Sem α) Q E s := by
  obtain ⟨g', T, oe, oT, vs, ts, TT, F, N, hTe, hn, hc, hd, h1, h2, hdT, h3⟩ := id X
  unfold PySem.passOn
  refine wpAny_bind (wpAny_field (N _ (.head _)).1 hd h1 ?_)
  rw [if_neg (by simp)]
  exact wpAny_bind (flight X fun h' x => wpAny_throw (k h' x))
/-- raised in the test of a while -/
theorem raised_in (B : Below A₀ base outer g) (D : KtsDicts (fsOf outer) g) (F : Fr g L h m) (N : News g L h news) (X : NewX h s.heap e cx) (hfr : A.frames = some (envOf name scope L a cd :: outer)) (hk : scope.kind = .function)
    (k : ∀ h', Fly (fsOf outer) g L m news cx (rawInt L) e h' → E (.ref e) { s with heap := h' }) : notedBy M A (envOf name scope L a cd) (cameBackBy M A (envOf name scope L a cd) E) (.ref e) s :=
  note_new B D F N X hfr hk fun h' x => came (s := { s with heap := h' }) x k
theorem passed_on {A' : Around} (X : Fly fs g L m news cx (rawInt L) e s.heap) (k : ∀ h', Fly fs g L m news cx (rawInt L) e h' → E (.ref e) { s with heap := h' }) : notedBy M A (envOf name scope L a cd) (cameBackBy M A' (envOf name scope L a cd) E) (.ref e) s :=
  note_again X (came X k)
theorem while_once {env : Env} {test : PySem.Expr} {body : List Stmt} {pos : Pos} {Q : Flow → Shared → Prop}
    (h : wpAny (model prog w) A (isTrue test env (eval test env)) (fun b s₂ => b = false ∧ Q .next s₂) (notedBy (model prog w) A env (cameBackBy (model prog w) A env E)) s) : wpAny (model prog w) A (exec (.While test body [] pos) env) Q E s := by
  refine wpAny_While (codeAny_whileLoop (fun _ s' => s' = s) (fun n s' hs => ?_) 0 rfl)
  subst hs
  refine wpAny_mono h (fun b s₂ h₂ => ?_) fun _ _ x => x
  obtain ⟨rfl, h₂⟩ := h₂
  rw [if_neg Bool.false_ne_true]
  exact wpAny_execs_nil h₂
theorem stays_turn {g' : Heap} (B : Below A₀ base outer g) (T : KtsTurn (fsOf outer) g g') : base.StaysIn g' := fun b o q => T.other _ _ (B.stays b o q) fun z => by
  obtain ⟨env, he, hf⟩ := List.mem_filterMap.mp z
  have := (B.frames.mem (List.mem_filterMap.mpr ⟨env, he, hf⟩)).1
  rw [this] at q; cases q
theorem caught0 {p : Program} {loose : List PySem.Str} {mean : ExcName → Option Value} {mg mb : PySem.Str → Option Value} {np pos : Pos} {b₀ : Stmt} {suite : List Stmt} {rest : List ExceptHandler} {Q : Flow → Shared → Prop}
    (B : Below A₀ base outer g) (XB : (Mine.hd.heap_1 w.params).In base) (TB : Top p loose mean mg mb base) (X : Fly (fsOf outer) g L m news cx (rawInt L) e s.heap)
    (k : ∀ g' h', KtsTurn (fsOf outer) g g' → Fr g' L h' m → News g' L h' news → wpAny (model prog w) (A.mark (some (.ref e))) (execs (b₀ :: suite) (envOf name scope L a cd)) Q (notedBy (model prog w) (A.mark (some (.ref e))) (envOf name scope L a cd) (cameBackBy (model prog w) A (envOf name scope L a cd) E)) { s with heap := h' })
    (hk : autoParam (scope.kind = .function) rflAuto) (hx : autoParam ((envOf name scope L a cd).kindOf (PySem.Str.ofString "IndexError") = some .globalImplicit) rflAuto) :
    wpAny (model prog w) A (setFlight (.ref e) none) (fun _ s₃ =>
      wpAny (model prog w) A (handleBy (.ref e) (envOf name scope L a cd) (.ExceptHandler (some (.Name (PySem.Str.ofString "IndexError") np)) none (b₀ :: suite) pos :: rest)) Q E s₃) E s := by
  refine flight X fun h1 X1 => ?_
  obtain ⟨g', T, oe, oT, vs, ts, TT, F, N, hTe, hn, hc, hd, h1', h2, hdT, h3⟩ := id X1
  have st := stays_turn B TT
  refine wpAny_handleBy_builtin (X := "IndexError") (T := "IndexError") (b := true) (isSubtype_of_subB (by decide +kernel)) (isSubtype_of_subB (by decide +kernel)) (isSubtype_of_subB (by decide +kernel))
    (name_B F (XB.keeps st) (topRead_of (TB.keeps st)) (by rfl) (by decide +kernel) (by decide) ⟨rfl, ⟨oe, (N _ (.head _)).1, hc⟩, ?_⟩ hk hx (by decide))
  rw [if_pos rfl]
  refine flight (s := { s with heap := h1 }) X1 fun h2 X2 => ?_
  obtain ⟨g2, T2, oe2, oT2, vs2, ts2, TT2, F2, N2, _⟩ := id X2
  exact k g2 h2 TT2 F2 fun p hp => N2 p (.tail _ (.tail _ hp))
theorem below_turn {g' : Heap} (B : Below A₀ base outer g) (T : KtsTurn (fsOf outer) g g') : Below A₀ base outer g' :=
  ⟨B.stack, stays_turn B T, B.frames.of_keeps fun b o q _ => let ⟨_, hs⟩ := T.up q; ⟨_, hs, rfl⟩⟩
theorem Fly.up {g' : Heap} (T : KtsTurn fs g g') (X : Fly fs g' L m news cx fl e h) : Fly fs g L m news cx fl e h := by
  obtain ⟨g1, t, oe, oT, vs, ts, TT, r1, r2, r3, r4, r5, r6, r7, r8, r9, rA⟩ := X
  exact ⟨g1, t, oe, oT, vs, ts, T.trans TT, r1, r2, r3, r4, r5, r6, r7, r8, r9, rA⟩
theorem Fly.sub {news' : List (Addr × Obj)} (hs : ∀ p ∈ news', p ∈ news) (X : Fly fs g L m news cx fl e h) : Fly fs g L m news' cx fl e h := by
  obtain ⟨g1, t, oe, oT, vs, ts, TT, F, N, hTe, hn, r4, r5, r6, r7, r8, r9⟩ := X
  refine ⟨g1, t, oe, oT, vs, ts, TT, F, fun p hp => ?_, hTe, fun q hq => hn q (hs q hq), r4, r5, r6, r7, r8, r9⟩
  rcases List.mem_cons.mp hp with rfl | hp
  · exact N _ (.head _)
  · rcases List.mem_cons.mp hp with rfl | hp
    · exact N _ (.tail _ (.head _))
    · exact N _ (.tail _ (.tail _ (hs p hp)))
end
end Xc

end
section
set_option Elab.async false
set_option maxRecDepth 100000
set_option maxHeartbeats 2000000
open PySem PySem.W PySem.Calls PySem.Builtin PyProof.Rows
namespace Xc
theorem ltL_irrefl (x : List Nat) (h : x < x) : False := List.lt_irrefl x h
/-- where the two rows have been read as far as i and j -/
structure Inv (as bs : List (List Nat)) (i j : Nat) (ms us : List (List Nat)) : Prop where
  hi : i ≤ as.length
  hj : j ≤ bs.length
  em : ms = (as.take i).filter fun a => !decide (a ∈ bs)
  eu : us = (bs.take j).filter fun b => !decide (b ∈ as)
  ab : ∀ x ∈ as.take i, ∀ y ∈ bs.drop j, x < y
  ba : ∀ y ∈ bs.take j, ∀ x ∈ as.drop i, y < x
theorem Inv.start {as bs : List (List Nat)} : Inv as bs 0 0 [] [] := ⟨Nat.zero_le _, Nat.zero_le _, rfl, rfl, nofun, nofun⟩
theorem Inv.swap {as bs ms us : List (List Nat)} {i j : Nat} (v : Inv as bs i j ms us) : Inv bs as j i us ms := ⟨v.hj, v.hi, v.eu, v.em, v.ba, v.ab⟩
theorem dropEq {as : List (List Nat)} {i : Nat} {x : List Nat} (h : as[i]? = some x) : as.drop i = x :: as.drop (i + 1) := by
  obtain ⟨h1, h2⟩ := List.getElem?_eq_some_iff.mp h
  rw [← h2]
  exact List.drop_eq_getElem_cons h1
theorem takeEq {as : List (List Nat)} {i : Nat} {x : List Nat} (h : as[i]? = some x) : as.take (i + 1) = as.take i ++ [x] := by
  rw [List.take_add_one, h]; rfl
theorem below_next {as : List (List Nat)} {i : Nat} {x : List Nat} (s : as.Pairwise (· < ·)) (h : as[i]? = some x) : ∀ y ∈ as.drop (i + 1), x < y := by
  have := s.drop (i := i)
  rw [dropEq h] at this
  exact (List.pairwise_cons.mp this).1
theorem Inv.notin {as bs ms us : List (List Nat)} {i j : Nat} {x y : List Nat} (v : Inv as bs i j ms us) (hx : as[i]? = some x) (hy : bs[j]? = some y) (s2 : bs.Pairwise (· < ·)) (l : x < y) : x ∉ bs := by
  intro q
  rw [← List.take_append_drop j bs] at q
  rcases List.mem_append.mp q with q | q
  · exact ltL_irrefl x (v.ba x q x (by rw [dropEq hx]; exact .head _))
  · rw [dropEq hy] at q
    rcases List.mem_cons.mp q with rfl | q
    · exact ltL_irrefl _ l
    · exact ltL_irrefl x (List.lt_trans l (below_next s2 hy x q))
theorem Inv.less {as bs ms us : List (List Nat)} {i j : Nat} {x y : List Nat} (v : Inv as bs i j ms us) (hx : as[i]? = some x) (hy : bs[j]? = some y) (s2 : bs.Pairwise (· < ·)) (l : x < y) : Inv as bs (i + 1) j (ms ++ [x]) us := by
  have hn := v.notin hx hy s2 l
  refine ⟨(List.getElem?_eq_some_iff.mp hx).1, v.hj, ?_, v.eu, fun a ha b hb => ?_, fun b hb a ha => v.ba b hb a ?_⟩
  · rw [takeEq hx, List.filter_append, ← v.em]
    congr 1
    simp [hn]
  · rw [takeEq hx] at ha
    rcases List.mem_append.mp ha with ha | ha
    · exact v.ab a ha b hb
    · rw [List.mem_singleton.mp ha]
      rw [dropEq hy] at hb
      rcases List.mem_cons.mp hb with rfl | hb
      · exact l
      · exact List.lt_trans l (below_next s2 hy b hb)
  · rw [dropEq hx]; exact .tail _ ha
theorem Inv.same {as bs ms us : List (List Nat)} {i j : Nat} {x : List Nat} (v : Inv as bs i j ms us) (hx : as[i]? = some x) (hy : bs[j]? = some x) (s1 : as.Pairwise (· < ·)) (s2 : bs.Pairwise (· < ·)) : Inv as bs (i + 1) (j + 1) ms us := by
  refine ⟨(List.getElem?_eq_some_iff.mp hx).1, (List.getElem?_eq_some_iff.mp hy).1, ?_, ?_, fun a ha b hb => ?_, fun b hb a ha => ?_⟩
  · rw [takeEq hx, List.filter_append, ← v.em]
    have : x ∈ bs := List.mem_of_getElem? hy
    simp [this]
  · rw [takeEq hy, List.filter_append, ← v.eu]
    have : x ∈ as := List.mem_of_getElem? hx
    simp [this]
  · rw [takeEq hx] at ha
    rcases List.mem_append.mp ha with ha | ha
    · exact v.ab a ha b (by rw [dropEq hy]; exact .tail _ hb)
    · rw [List.mem_singleton.mp ha]; exact below_next s2 hy b hb
  · rw [takeEq hy] at hb
    rcases List.mem_append.mp hb with hb | hb
    · exact v.ba b hb a (by rw [dropEq hx]; exact .tail _ ha)
    · rw [List.mem_singleton.mp hb]; exact below_next s1 hx a ha
theorem Inv.done {as bs ms us : List (List Nat)} {i j : Nat} (v : Inv as bs i j ms us) (h : as.length ≤ i ∨ bs.length ≤ j) : ms ++ as.drop i = as.filter fun a => !decide (a ∈ bs) := by
  have e : as.filter (fun a => !decide (a ∈ bs)) = (as.take i).filter (fun a => !decide (a ∈ bs)) ++ (as.drop i).filter (fun a => !decide (a ∈ bs)) := by
    rw [← List.filter_append, List.take_append_drop]
  rw [e, ← v.em]
  congr 1
  symm
  rw [List.filter_eq_self]
  intro a ha
  rcases h with h | h
  · rw [List.drop_of_length_le h] at ha; cases ha
  · have : a ∉ bs := fun q => by
      rw [← List.take_of_length_le h] at q
      exact ltL_irrefl a (v.ba a q a ha)
    simp [this]
theorem next_ne {as : List (List Nat)} {i : Nat} {x y : List Nat} (s : as.Pairwise (· < ·)) (hx : as[i]? = some x) (hy : as[i + 1]? = some y) : y ≠ x := fun q => by
  subst q
  exact ltL_irrefl _ (below_next s hx y (by rw [dropEq hy]; exact .head _))
theorem pick_drop {vs : List Value} {k : Nat} {z : Int} (hz : z = (k : Nat)) : (slicePick vs.toArray (some z) none none).toList = vs.drop k := Mine.pick_drop hz
theorem all2_drop {α β : Type} {R : α → β → Prop} {as : List α} {bs : List β} (h : All2 R as bs) : ∀ k, All2 R (as.drop k) (bs.drop k) := by
  induction h with
  | nil => intro k; rw [List.drop_nil, List.drop_nil]; exact .nil
  | cons h1 h2 ih =>
    intro k
    cases k with
    | zero => exact .cons h1 h2
    | succ k => rw [List.drop_succ_cons, List.drop_succ_cons]; exact ih k
theorem list_turn {fs : List Addr} {g g' : Heap} {l : Addr} {vs : Array Value} (T : KtsTurn fs g g') (hl : g.IsList l vs) : g'.IsList l vs := by
  obtain ⟨o, h1, h2, n, h3⟩ := hl
  obtain ⟨sl, hs⟩ := T.up h1
  exact ⟨_, hs, h2, n, h3⟩
section
variable {prog : Program} {w : World} {A : Around} {E : Value → Shared → Prop} {s : Shared} {Q : Value → Shared → Prop} {l k : List Nat} {t u : Tok}
theorem r_gt (h : Q (.bool (decide (k < l))) s) : wpAny (model prog w) A (compareOp .Gt (.str (mk l) t) (.str (mk k) u)) Q E s :=
  P.gt_str (by simpa using h)
variable {h₀ : Heap} {L D b : Addr} {m : PySem.Str → Option Value} {d : Addr} {o : Obj} {ys zs : List Value} {n n2 : Nat} {x : Value}
theorem app1 (F : Fr h₀ L s.heap m) (N : News h₀ L s.heap [(d, o), (D, W.listOf ys.toArray n)]) (hne : d ≠ D) (hz : ys.length ≤ 100000) (h : ∀ h', Fr h₀ L h' m → News h₀ L h' [(d, o), (D, W.listOf (ys ++ [x]).toArray (n + 1))] → Q .none { s with heap := h' }) :
    wpAny (model prog w) A (call (.builtin "list.append") [.ref D, x]) Q E s :=
  append_in (own := [(d, o)]) (rest := []) F N (fun r hr => by rw [List.mem_singleton.mp hr]; exact hne) (fun _ hr => nomatch hr) h (Nat.le_trans hz szl)
theorem app0 (F : Fr h₀ L s.heap m) (N : News h₀ L s.heap [(D, W.listOf ys.toArray n), (d, o)]) (hne : d ≠ D) (hz : ys.length ≤ 100000) (h : ∀ h', Fr h₀ L h' m → News h₀ L h' [(D, W.listOf (ys ++ [x]).toArray (n + 1)), (d, o)] → Q .none { s with heap := h' }) :
    wpAny (model prog w) A (call (.builtin "list.append") [.ref D, x]) Q E s :=
  append_in (own := []) (rest := [(d, o)]) F N (fun _ hr => nomatch hr) (fun r hr => by rw [List.mem_singleton.mp hr]; exact hne) h (Nat.le_trans hz szl)
theorem ext2 (F : Fr h₀ L s.heap m) (N : News h₀ L s.heap [(b, W.listOf zs.toArray n2), (d, o), (D, W.listOf ys.toArray n)]) (hb : b ≠ D) (hne : d ≠ D) (hz : ys.length + zs.length ≤ 100000) (h : ∀ h' n', Fr h₀ L h' m → News h₀ L h' [(d, o), (D, W.listOf (ys ++ zs).toArray n')] → Q .none { s with heap := h' }) :
    wpAny (model prog w) A (call (.builtin "list.extend") [.ref D, .ref b]) Q E s :=
  extend_in (own := [(b, W.listOf zs.toArray n2), (d, o)]) (rest := []) F N (fun r hr => by
    rcases List.mem_cons.mp hr with rfl | hr
    · exact hb
    · rw [List.mem_singleton.mp hr]; exact hne) (fun _ hr => nomatch hr) (N _ (.head _)).1 (fun h' n' F' N' => h h' n' F' fun r hr => by
      have := N' r (.tail _ hr)
      simpa using this) (by rw [List.size_toArray]; exact Nat.le_trans hz szl)
theorem ext1 (F : Fr h₀ L s.heap m) (N : News h₀ L s.heap [(b, W.listOf zs.toArray n2), (D, W.listOf ys.toArray n), (d, o)]) (hb : b ≠ D) (hne : d ≠ D) (hz : ys.length + zs.length ≤ 100000) (h : ∀ h' n', Fr h₀ L h' m → News h₀ L h' [(D, W.listOf (ys ++ zs).toArray n'), (d, o)] → Q .none { s with heap := h' }) :
    wpAny (model prog w) A (call (.builtin "list.extend") [.ref D, .ref b]) Q E s :=
  extend_in (own := [(b, W.listOf zs.toArray n2)]) (rest := [(d, o)]) F N (fun r hr => by rw [List.mem_singleton.mp hr]; exact hb) (fun r hr => by rw [List.mem_singleton.mp hr]; exact hne) (N _ (.head _)).1 (fun h' n' F' N' => h h' n' F' fun r hr => by
      have := N' r (.tail _ hr)
      simpa using this) (by rw [List.size_toArray]; exact Nat.le_trans hz szl)
end
end Xc

end
theorem lit_p1 : PySem.Str.ofString "*.7" = mk [42, 46, 55] := by decide +kernel
theorem lit_p2 : PySem.Str.ofString "*.77" = mk [42, 46, 55, 55] := by decide +kernel
theorem lit_p3 : PySem.Str.ofString "*.777" = mk [42, 46, 55, 55, 55] := by decide +kernel
theorem lit_p4 : PySem.Str.ofString "*.7777" = mk [42, 46, 55, 55, 55, 55] := by decide +kernel
theorem lit_p5 : PySem.Str.ofString "*." = mk [42, 46] := by decide +kernel
theorem lit_p6 : PySem.Str.ofString "?*" = mk [63, 42] := by decide +kernel
theorem lit_p7 : PySem.Str.ofString "*.*.*" = mk [42, 46, 42, 46, 42] := by decide +kernel
theorem lit_p8 : PySem.Str.ofString "*.local" = mk [42, 46, 108, 111, 99, 97, 108] := by decide +kernel
theorem lit_p9 : PySem.Str.ofString "*[" = mk [42, 91] := by decide +kernel
local macro_rules | `(tactic| walk_at "lit") => litOf "lit_p1 lit_p2 lit_p3 lit_p4 lit_p5 lit_p6 lit_p7 lit_p8 lit_p9"
local macro_rules | `(tactic| walk_at "binaryOp Add ref ref") => st "dl" ``r_addL "a a isl isl llen" "a' h' l' F' N'"
local macro_rules | `(tactic| walk_at "compareOp In str ref") => st "d" ``r_inL "isl a" ""
local macro_rules | `(tactic| walk_at "compareOp NotIn str ref") => st "d" ``r_ninL "isl a" ""
local macro_rules | `(tactic| walk_at "compareOp IsNot bool bool") => st "d" ``r_isNotB "" ""
local macro_rules | `(tactic| walk_at "gp") => altM (sd "a" :: (List.range 9).map fun i => ex s!"Mine.gp_{i + 1}" "")
local macro_rules | `(tactic| walk_at "call ref") => sc "r" ``c_keptG 9 9 "1:gp 2:isl 3:a 4:wd 5:deep 6:= 7:an 8:a" "h' r' kv' n' tk' x' W' hr' hf' hv' hz'"
local macro_rules | `(tactic| walk_at "llen") => altM [sd "nat", pr [so "List.length_append List.length_cons List.length_nil" false, sd "nat"], pr [haveOf "hlz'" `Mine.strvLen "a", sd "nat"]]
local macro_rules | `(tactic| walk_at "msub") => sqM [inM "p' hp'", rf "List.Sublist.subset" "?_ hp'", wd "tacticRepeat_" "repeat" (alts [exT ``List.Sublist.refl 1, exT ``List.nil_sublist 1, ta "apply" "apply" (Lean.mkCIdent ``List.Sublist.cons_cons), ta "apply" "apply" (Lean.mkCIdent ``List.Sublist.cons)]), sd "done"]
local macro_rules | `(tactic| walk_at "call ref") => st "f" ``c_is_HDN "wd deep len" "h' tk' x'"
local macro_rules | `(tactic| walk_at "call ref") => st "f" ``c_liberal "wd deep len" "h' tk' x'"
local macro_rules | `(tactic| walk_at "call ref") => st "f" ``c_domain_match "wd deep len len asc asc" "h' tk' x'"
local macro_rules | `(tactic| walk_at "call ref") => st "f" ``c_user_domain_match "wd deep len len asc asc" "h' tk' x'"
local macro_rules | `(tactic| walk_at "call ref") => st "f" ``c_reach "wd deep len" "h' t' tk' x'"
local macro_rules | `(tactic| walk_at "call builtin:str.index") => st "d" ``r_index "a" "_ _"
theorem lit_h1 : PySem.Str.ofString "a" = mk [97] := by decide +kernel
theorem lit_h2 : PySem.Str.ofString ".B" = mk [46, 66] := by decide +kernel
theorem lit_h3 : PySem.Str.ofString ".7" = mk [46, 55] := by decide +kernel
theorem lit_h4 : PySem.Str.ofString "7" = mk [55] := by decide +kernel
theorem lit_h5 : PySem.Str.ofString ".local" = mk [46, 108, 111, 99, 97, 108] := by decide +kernel
local macro_rules | `(tactic| walk_at "lit") => litOf "lit_h1 lit_h2 lit_h3 lit_h4 lit_h5"
local macro_rules | `(tactic| walk_at "binaryOp Mod int int") => st "d" ``r_modN "= = npos" "_ _"
local macro_rules | `(tactic| walk_at "binaryOp FloorDiv int int") => st "d" ``r_fdivN "= = npos npos" "_ _"
local macro_rules | `(tactic| walk_at "binaryOp Pow int int") => st "d" ``r_powN "= = npos npos" "_ _"
local macro_rules | `(tactic| walk_at "npos") => altM [sd "a", sd "nat", sd "decide", (pr [sd "simp", sd "done"])]
local macro_rules | `(tactic| walk_at "subscriptTail Name BinOp ref int") => st "d" ``Li.r_at "isl len a rfl" ""
local macro_rules | `(tactic| walk_at "call type:list") => st "dl" `Mine.r_listL "a a isl llen" "D' c' h' l' F' N'"
theorem walk_reset_F10 {M : Model} {A : Around} {E : Value → Shared → Prop} {s : Shared} {Q : Bool → Shared → Prop} (h : Q true s) : wpAny M A (truthy (.bool true)) Q E s := by first | (walk1; exact h) | exact wpAny_truthy_bool h
section
set_option maxRecDepth 100000
set_option maxHeartbeats 8000000
set_option linter.unusedVariables false
set_option linter.unusedSimpArgs false
open PySem PySem.W PySem.Calls PyProof.Rows
section
variable {prog : Program} {w : World} {A : Around} {E : Value → Shared → Prop} {s : Shared} {Q : Value → Shared → Prop} {mg mb : Str → Option Value} {l k : List Nat} {t u : Tok}
theorem c_names {Kn : Addr} {ks : List (List Nat)} {kv : List Value} (W0 : Wd w mg mb s.heap) (hd : A.depth + 4 < recursionLimit) (hh : A.handled = none) (hN : s.heap.IsList Kn kv.toArray) (hn : All2 StrV ks kv) (hz : ks.length ≤ 100) (hkz : ∀ n ∈ ks, n.length ≤ 1000)
    (H : ∀ n ∈ ks, hdn n = decide (n ∈ namedL ks) ∧ (!Rx.ipv4 (mk n)) = !decide (n ∈ barredL ks))
    (hQ : ∀ h' r b c bv cv n1 n2 n3 tk', Ext7 s.heap h' → Wd w mg mb h' → h'.get? r = some { cls := .type "tuple", data := .seq #[.ref b, .ref c] n1 } → s.heap.get? r = none → h'.get? b = some (W.listOf (bv : List Value).toArray n2) → s.heap.get? b = none → h'.get? c = some (W.listOf (cv : List Value).toArray n3) → s.heap.get? c = none →
      All2 StrV (barredL ks) bv → All2 StrV (namedL ks) cv → Q (.ref r) { s with heap := h', toks := tk' }) :
    wpAny (model prog w) A (call (.ref 157) [.ref Kn]) Q E s := by
  obtain ⟨ah, adp, afr, agd, aun⟩ := A
  dsimp only at hh hd
  subst hh
  obtain ⟨X, ⟨_, _, mean, T⟩, BT⟩ := id W0
  have hd' : adp < recursionLimit := by (first | lia | omega)
  obtain ⟨oN, hN1, hN2, hN3⟩ := id hN
  have hN' : (hid s.heap).IsList Kn kv.toArray := ⟨oN, hid_cls BT hN1 (.inl (by rw [hN2]; nofun)), hN2, hN3⟩
  k_dflt (refine' enter7C (binds := [(Str.ofString "known", .ref Kn)]) X T BT ?k6 ?k7 hd' ?k9 ?kB ?kD ?c2 ?c3 ?c4 ?_; (case k6 => k_is); (case k7 => k_is); (case k9 => exact BindsTo.of_eq rfl); (case kB => exact kindsX rfl); (case kD => decide +kernel); (case c2 => exact rfl); (case c3 => exact rfl); (case c4 => exact rfl); k_whole; intro L h₁ tk cells ps X7 T7 okp l97 F N Y; k_cells Y; (try simp only [List.cons_append, List.nil_append] at N); (try dsimp only); (try k_fold))
  clear X T BT
  obtain ⟨_, T7⟩ := T7
  walk_at "my steps"
  refine my_for ?_
  walk_at "my steps"
  (rename Fr _ _ _ _ => F0); (rename News _ _ _ _ => N0); (rename Obj => co)
  rename_i lb hb0 lt1 hb1 t1 k1 t2 k2 t3 k3 t4 k4 T0 hb2 lt2
  generalize hoT : ({ cls := Value.type "tuple", data := Data.seq #[Value.str (mk [42, 46, 55]) t1, Value.str (mk [42, 46, 55, 55]) t2, Value.str (mk [42, 46, 55, 55, 55]) t3, Value.str (mk [42, 46, 55, 55, 55, 55]) t4] } : Obj) = oT at N0
  refine for_tup (items := #[Value.str (mk [42, 46, 55]) t1, Value.str (mk [42, 46, 55, 55]) t2, Value.str (mk [42, 46, 55, 55, 55]) t3, Value.str (mk [42, 46, 55, 55, 55, 55]) t4]) (BarJ ks Kn (L + 1) co T0 oT) F0 (newsSub (news' := [(lb, W.listOf (([] : List Value)).toArray 0), (T0, oT), (L + 1, co), (97, tabObj ps)]) N0 swapLed) (.tail _ (.head _)) (by rw [← hoT]) ⟨0, by rw [← hoT]⟩ rfl rfl rfl ?_ ?_ ?_ ?_ ?_
  · rintro I i m news ⟨b, bv, kb, ps1, _, rfl, _⟩
    exact .tail _ (.head _)
  · intro I hI
    have a1 : lb < I := hI (lb, _) (.head _)
    have a2 : T0 < I := hI (T0, oT) (.tail _ (.head _))
    have a3 : L + 1 < I := hI (L + 1, co) (.tail _ (.tail _ (.head _)))
    have a4 : 97 < I := hI (97, tabObj ps) (.tail _ (.tail _ (.tail _ (.head _))))
    exact ⟨lb, [], 0, ps, okp, rfl, Nat.ne_of_lt a1, Nat.ne_of_lt a2, Nat.ne_of_lt a3, Nat.ne_of_lt a4, Nat.ne_of_gt lt1.1, .nil, rfl, rfl⟩
  · rintro I i m news ⟨b, bv, kb, ps1, _, rfl, n1, n2, n3, n4, _⟩ q hq
    simp only [List.mem_cons, List.not_mem_nil, or_false] at hq
    rcases hq with rfl | rfl | rfl | rfl
    · exact n1
    · exact n2
    · exact n3
    · exact n4
  · rintro I io i v m₁ news₁ h₁ tk₁ hio hv ⟨b, bv, kb, ps1, ok1, rfl, n1, n2', n3, n4, n5, hbv, mb1, mk1⟩ F N
    obtain ⟨l, P, t, rfl, gp, hP⟩ : ∃ l P t, v = .str (mk l) t ∧ GoodP l P ∧ bars[i]? = some P := by
      rcases i with _ | _ | _ | _ | i
      · simp at hv; subst hv; exact ⟨_, _, _, rfl, gp_1, rfl⟩
      · simp at hv; subst hv; exact ⟨_, _, _, rfl, gp_2, rfl⟩
      · simp at hv; subst hv; exact ⟨_, _, _, rfl, gp_3, rfl⟩
      · simp at hv; subst hv; exact ⟨_, _, _, rfl, gp_4, rfl⟩
      · simp at hv
    have hoT2 : ∀ q, oT ≠ tabObj q := upCls (by rw [← hoT]; nofun)
    have hbl : bv.length ≤ 400 := by have := bars_len ks i; rw [hbv.len] at this; (first | lia | omega)
    clear hoT
    walk_at "my steps"
    (rename Fr _ _ _ _ => Fz); (rename News _ _ _ _ => Nz)
    rename_i r2 kv2 n2 tk2 x2 W2 hr2 hf2 hv2 hz2 ps2 ok2 _ _ ne2 a2 _ _ _ lt9 _
    refine endF Fz (newsSub (news' := [(I, io), (a2, W.listOf (bv ++ kv2).toArray 0), (T0, oT), (L + 1, co), (97, tabObj ps2)]) Nz (by intro p hp; simp only [List.mem_cons, List.not_mem_nil, or_false] at hp ⊢; rcases hp with h | h | h | h | h <;> simp only [h, true_or, or_true])) ⟨a2, bv ++ kv2, 0, ps2, ok2, rfl, ?_, n2', n3, n4, Nat.ne_of_gt lt9.2.2.2.2.1, ?_, rfl, mk1⟩
    · exact Nat.ne_of_gt lt9.2.1
    · rw [bars_step hP]; exact hbv.app hv2
  · rintro I m₁ news₁ h₁ tk₁ ⟨b, bv, kb, ps1, ok1, rfl, n1, n2, n3, n4, n5, hbv, mb1, mk1⟩ F N
    have hbv' : All2 StrV (barredL ks) bv := by rw [← barredL_eq]; exact hbv
    have hoT2 : ∀ q, oT ≠ tabObj q := upCls (by rw [← hoT]; nofun)
    have hbl : bv.length ≤ 400 := by have := barredL_len ks; rw [hbv'.len] at this; (first | lia | omega)
    clear hoT
    replace F : Fr (hid s.heap) L h₁ m₁ := F
    replace N : News (hid s.heap) L h₁ [(b, W.listOf (bv : List Value).toArray kb), (T0, oT), (L + 1, co), (97, tabObj ps1)] := N
    walk_at "my steps"
    (rename Fr _ _ _ _ => Fz); (rename News _ _ _ _ => Nz)
    rename_i r2 kv2 n2 tk2 x2 W2 hr2 hf2 hv2 hz2 ps2 ok2 _ _ ne2 a2 _ _ _ lt9 t3 k3 h3 r3 kv3 n3 tk3 x3 W3 hr3 hf3 hv3 hz3 ps3 ok3 _ _ ne3 a3 h4 lt10
    clear x2 W2 hr2 hf2 ok2 x3 W3 hr3 hf3
    refine r_storeC Fz Nz rfl (by k_mem) (by assumption) ?_
    intro h' co' F' up dco'
    have N' := up [(a3, W.listOf (bv ++ kv2 ++ kv3).toArray 0), (b, W.listOf (bv : List Value).toArray kb), (L + 1, co'), (97, tabObj ps3)] (fun p hp => by
      rcases List.mem_cons.mp hp with rfl | hp
      · exact .inr ⟨by k_mem, Nat.ne_of_gt lt10.2.2.2.2.2.1⟩
      · rcases List.mem_cons.mp hp with rfl | hp
        · exact .inr ⟨by k_mem, n5⟩
        · rcases List.mem_cons.mp hp with rfl | hp
          · exact .inl rfl
          · rw [List.mem_singleton.mp hp]
            exact .inr ⟨by k_mem, Nat.ne_of_lt (Nat.lt_succ_of_lt l97)⟩)
    have hov : All2 StrV (outL ks) (bv ++ kv2 ++ kv3) := (hbv'.app hv2).app hv3
    clear Fz Nz up
    walk_at "my steps"
    walk_at "my lcA"
    (rename Fr _ _ _ _ => Fz); (rename News _ _ _ _ => Nz)
    rename_i t5 k5 h5 r5 kv5 n5' tk5 x5 W5 hr5 hf5 hv5 hz5 ps5 ok5 ne5
    clear x5 W5 hr5 hf5
    have ne5b : b ≠ r5 := ne5 (b, W.listOf bv.toArray kb) (by k_mem)
    have ne5c : L + 1 ≠ r5 := ne5 (L + 1, co') (by k_mem)
    have ne597 : 97 ≠ r5 := ne5 (97, tabObj ps3) (by k_mem)
    refine lc_any (kept [.any, .star] ks) (fun n => if (!decide (n ∈ outL ks)) = true then some n else none) StrV StrV (iter_list (by rfl) (Li.led Nz (by k_mem)) Fz Nz (.inr (by simp))) hv5.len (fun i v h => hv5.back h) (by rw [hv5.len]; (first | lia | omega)) (by rfl) (by rfl) ?_ ?_
    · intro C D2 oL I2 io i n v ys k mc h2 tk2 hn1 hv1 hmc F N
      show wpAny _ _ (isTrue _ _ _) _ _ _
      obtain ⟨tn, rfl⟩ := hv1
      cases hin : (!decide (n ∈ outL ks)) with
      | true =>
        walk_at "my steps"
        exact endY F N (if_pos rfl) ⟨_, rfl⟩
      | false =>
        walk_at "my steps"
        exact endC F N (if_neg (by decide))
    · intro D2 h2 tk2 ys k F N oD hA
      rw [fm_filter] at hA
      have hA' : All2 StrV (namedL ks) ys := hA
      have hD5 : ∀ q, _ := oD
      have nDb : b ≠ D2 := oD (b, W.listOf bv.toArray kb) (by k_mem)
      have nDc : L + 1 ≠ D2 := oD (L + 1, co') (by k_mem)
      have nD97 : 97 ≠ D2 := oD (97, tabObj ps5) (by k_mem)
      clear Fz Nz
      replace N := newsSub (news' := [(D2, W.listOf ys.toArray k), (b, W.listOf bv.toArray kb), (97, tabObj ps5)]) N (by walk_at "msub")
      walk_at "my steps"
      refine my_for ?_
      walk_at "my steps"
      refine for_list (fun I i m news => news = [(D2, W.listOf ys.toArray k), (b, W.listOf bv.toArray kb), (97, tabObj ps5)] ∧ D2 ≠ I ∧ b ≠ I ∧ 97 ≠ I ∧ m (Str.ofString "named") = some (.ref D2) ∧ m (Str.ofString "barred") = some (.ref b))
        (hN'.at fun o e => F.keep _ o e) F N rfl rfl rfl (fun I hI => ⟨rfl, Nat.ne_of_lt (hI (D2, W.listOf ys.toArray k) (by k_mem)), Nat.ne_of_lt (hI (b, W.listOf bv.toArray kb) (by k_mem)), Nat.ne_of_lt (hI (97, tabObj ps5) (by k_mem)), rfl, mb1⟩) ?_ (fun I i m news h hj F N => hN'.at fun o e => F.keep _ o e) ?_ ?_
      · rintro I i m news ⟨rfl, q1, q2, q3, _⟩ q hq
        simp only [List.mem_cons, List.not_mem_nil, or_false] at hq
        rcases hq with rfl | rfl | rfl
        · exact q1
        · exact q2
        · exact q3
      · rintro I io i v m₁ news₁ h₁ tk₁ hio hv ⟨rfl, q1, q2, q3, mn, mb⟩ F N
        obtain ⟨n, hn1, tn, rfl⟩ := hn.back hv
        have hmem : n ∈ ks := List.mem_of_getElem? hn1
        have hnl := hkz n hmem
        have hb1 : (hdn n != decide (n ∈ namedL ks)) = false := by rw [(H n hmem).1]; simp
        have hb2 : ((!Rx.ipv4 (mk n)) != !decide (n ∈ barredL ks)) = false := by rw [(H n hmem).2]; simp
        walk_at "my steps"
        (rename Fr _ _ _ _ => Fz); (rename News _ _ _ _ => Nz)
        exact endF Fz Nz ⟨rfl, q1, q2, q3, mn, mb⟩
      · rintro I m₁ news₁ h₁ tk₁ ⟨rfl, q1, q2, q3, mn, mb⟩ F N
        walk_at "my steps"
        (rename Fr _ _ _ _ => Fz); (rename News _ _ _ _ => Nz)
        rename_i D6 h6 lt6
        exact hQ h6 D6 b D2 bv ys _ kb k tk₁ (ext7_fr Fz) (by walk_at "wd") (Nz _ (.head _)).1 (fresh7 (Nat.ne_of_gt lt6.2.2) (Nz _ (.head _)).2.2) (Nz (b, _) (.tail _ (.tail _ (.head _)))).1 (fresh7 (fun q => by
          have h1 := (Nz (b, W.listOf bv.toArray kb) (.tail _ (.tail _ (.head _)))).1
          have h2 := (Nz (97, tabObj ps5) (.tail _ (.tail _ (.tail _ (.head _))))).1
          rw [q, h2] at h1; cases h1) (Nz (b, W.listOf bv.toArray kb) (.tail _ (.tail _ (.head _)))).2.2) (Nz (D2, W.listOf ys.toArray k) (.tail _ (.head _))).1 (fresh7 (Ne.symm nD97) (Nz (D2, W.listOf ys.toArray k) (.tail _ (.head _))).2.2) hbv' hA'
end
end
theorem walk_reset_F11 {M : Model} {A : Around} {E : Value → Shared → Prop} {s : Shared} {Q : Bool → Shared → Prop} (h : Q true s) : wpAny M A (truthy (.bool true)) Q E s := by first | (walk1; exact h) | exact wpAny_truthy_bool h
section
set_option maxRecDepth 100000
set_option maxHeartbeats 8000000
set_option linter.unusedVariables false
set_option linter.unusedSimpArgs false
open PySem PySem.W PySem.Calls PyProof.Rows
noncomputable def farL (hs : List (List Nat)) : List (List Nat) := kept [.star, .lit 46, .star, .lit 46, .star] hs ++ kept [.star, .lit 46, .lit 108, .lit 111, .lit 99, .lit 97, .lit 108] hs
noncomputable def toldL (hs ns : List (List Nat)) (l : List Nat) : List Nat := if low l ∈ ns ∧ l ∈ farL hs then l.drop (l.idxOf 46) else l
section
variable {prog : Program} {w : World} {A : Around} {E : Value → Shared → Prop} {s : Shared} {Q : Value → Shared → Prop} {mg mb : Str → Option Value} {l k : List Nat} {t u : Tok}
theorem c_reaches {Hn Nn : Addr} {hs ns : List (List Nat)} {hv nv : List Value} (W0 : Wd w mg mb s.heap) (hd : A.depth + 4 < recursionLimit) (hh : A.handled = none) (hH : s.heap.IsList Hn hv.toArray) (hN : s.heap.IsList Nn nv.toArray) (hhv : All2 StrV hs hv) (hnv : All2 StrV ns nv)
    (hz : hs.length ≤ 100) (hkz : ∀ n ∈ hs, n.length ≤ 1000) (hasc : ∀ n ∈ hs, Asc n)
    (H : ∀ n ∈ hs, reachL n = toldL hs ns n) (H2 : ∀ n ∈ hs, n ∈ farL hs → 46 ∈ n)
    (hQ : ∀ h' tk', Ext7 s.heap h' → Wd w mg mb h' → Q (.bool true) { s with heap := h', toks := tk' }) :
    wpAny (model prog w) A (call (.ref 164) [.ref Hn, .ref Nn]) Q E s := by
  obtain ⟨ah, adp, afr, agd, aun⟩ := A
  dsimp only at hh hd
  subst hh
  obtain ⟨X, ⟨_, _, mean, T⟩, BT⟩ := id W0
  have hd' : adp < recursionLimit := by (first | lia | omega)
  obtain ⟨oH, hH1, hH2, hH3⟩ := id hH
  have hH' : (hid s.heap).IsList Hn hv.toArray := ⟨oH, hid_cls BT hH1 (.inl (by rw [hH2]; nofun)), hH2, hH3⟩
  obtain ⟨oN, hN1, hN2, hN3⟩ := id hN
  have hN' : (hid s.heap).IsList Nn nv.toArray := ⟨oN, hid_cls BT hN1 (.inl (by rw [hN2]; nofun)), hN2, hN3⟩
  have hz1 : hs.length ≤ 1000 := by (first | lia | omega)
  k_dflt (refine' enter7 (binds := [(Str.ofString "hosts", .ref Hn), (Str.ofString "named", .ref Nn)]) X T BT ?k6 ?k7 hd' ?k9 ?kB ?c5 ?c2 ?c3 ?c4 ?_; walk_at "my enter"; intro L h₁ ps X7 T7 okp F N; walk_at "my fold")
  clear X T BT
  obtain ⟨_, T7⟩ := T7
  walk_at "my steps"
  (rename Fr _ _ _ _ => Fz); (rename News _ _ _ _ => Nz)
  rename_i r1 kv1 n1 tk1 x1 W1 hr1 hf1 hv1 hz1' ps1 ok1 ne1 t2 k2 h2 r2 kv2 n2 tk2 x2 W2 hr2 hf2 hv2 hz2 ps2 ok2 ne2 a2 h3 lt3 h4
  have hfv : All2 StrV (farL hs) (kv1 ++ kv2) := hv1.app hv2
  clear x1 W1 hr1 hf1 x2 W2 hr2 hf2 ok1
  replace Nz := newsSub (news' := [(a2, W.listOf (kv1 ++ kv2).toArray 0), (97, tabObj ps2)]) Nz (by walk_at "msub")
  refine my_for ?_
  walk_at "my steps"
  refine for_list (fun I i m news => news = [(a2, W.listOf (kv1 ++ kv2).toArray 0), (97, tabObj ps2)] ∧ a2 ≠ I ∧ 97 ≠ I ∧ m (Str.ofString "named") = some (.ref Nn) ∧ m (Str.ofString "far") = some (.ref a2))
    (hH'.at fun o e => Fz.keep _ o e) Fz Nz rfl rfl rfl (fun I hI => ⟨rfl, Nat.ne_of_lt (hI (a2, W.listOf (kv1 ++ kv2).toArray 0) (by k_mem)), Nat.ne_of_lt (hI (97, tabObj ps2) (by k_mem)), rfl, rfl⟩) ?_ (fun I i m news h hj F N => hH'.at fun o e => F.keep _ o e) ?_ ?_
  · rintro I i m news ⟨rfl, q1, q3, _⟩ q hq
    simp only [List.mem_cons, List.not_mem_nil, or_false] at hq
    rcases hq with rfl | rfl
    · exact q1
    · exact q3
  · rintro I io i v m₁ news₁ h₁ tk₁ hio hvi ⟨rfl, q1, q3, mn, mf⟩ F N
    obtain ⟨n, hn1, tn, rfl⟩ := hhv.back hvi
    have hmem : n ∈ hs := List.mem_of_getElem? hn1
    have hnl := hkz n hmem
    have hna := hasc n hmem
    have HR := H n hmem
    clear Fz Nz
    by_cases hl1 : low n ∈ ns
    · by_cases hl2 : n ∈ farL hs
      · have h46 := H2 n hmem hl2
        have hto : toldL hs ns n = n.drop (n.idxOf 46) := if_pos ⟨hl1, hl2⟩
        rw [hto] at HR
        have hne : (!decide (reachL n = n.drop (n.idxOf 46))) = false := by simp [HR]
        walk_at "my steps"
        (rename Fr _ _ _ _ => Fz); (rename News _ _ _ _ => Nz)
        exact endF Fz Nz ⟨rfl, q1, q3, mn, mf⟩
      · have hto : toldL hs ns n = n := if_neg (fun h => hl2 h.2)
        rw [hto] at HR
        have hne : (!decide (reachL n = n)) = false := by simp [HR]
        walk_at "my steps"
        (rename Fr _ _ _ _ => Fz); (rename News _ _ _ _ => Nz)
        exact endF Fz Nz ⟨rfl, q1, q3, mn, mf⟩
    · have hto : toldL hs ns n = n := if_neg (fun h => hl1 h.1)
      rw [hto] at HR
      have hne : (!decide (reachL n = n)) = false := by simp [HR]
      walk_at "my steps"
      (rename Fr _ _ _ _ => Fz); (rename News _ _ _ _ => Nz)
      exact endF Fz Nz ⟨rfl, q1, q3, mn, mf⟩
  · rintro I m₁ news₁ h₁ tk₁ ⟨rfl, q1, q3, mn, mf⟩ F N
    clear Fz Nz
    walk_at "my steps"
    (rename Fr _ _ _ _ => Fz); (rename News _ _ _ _ => Nz)
    exact hQ _ _ (ext7_fr Fz) (by walk_at "wd")
end
end
theorem walk_reset_F12 {M : Model} {A : Around} {E : Value → Shared → Prop} {s : Shared} {Q : Bool → Shared → Prop} (h : Q true s) : wpAny M A (truthy (.bool true)) Q E s := by first | (walk1; exact h) | exact wpAny_truthy_bool h
section
set_option maxRecDepth 100000
set_option maxHeartbeats 8000000
set_option linter.unusedVariables false
set_option linter.unusedSimpArgs false
open PySem PySem.W PySem.Calls PyProof.Rows
noncomputable def pieceL : Nat → List Nat
  | 0 => [97] | 1 => [46] | 2 => [46, 66] | 3 => [46, 55] | 4 => [55] | 5 => [42] | 6 => [91] | _ => [46, 108, 111, 99, 97, 108]
noncomputable def hostL (n : Nat) : List Nat := (List.range (n % 5)).flatMap fun p => pieceL (n / 5 / 8 ^ p % 8)
theorem pieceL_len (n : Nat) : (pieceL n).length ≤ 6 := by unfold pieceL; split <;> decide
theorem fm_map {α β : Type} (f : α → β) (l : List α) : l.filterMap (fun a => some (f a)) = l.map f := by
  induction l with
  | nil => rfl
  | cons a r ih => simp [List.filterMap_cons, ih]
theorem hostL_len (n : Nat) : (hostL n).length ≤ 24 := by
  have h : ∀ l : List Nat, (l.flatMap fun p => pieceL (n / 5 / 8 ^ p % 8)).length ≤ 6 * l.length := fun l => by
    induction l with
    | nil => simp
    | cons a r ih =>
      have := pieceL_len (n / 5 / 8 ^ a % 8)
      rw [List.flatMap_cons, List.length_append, List.length_cons]; (first | lia | omega)
  have h2 := h (List.range (n % 5))
  rw [List.length_range] at h2
  unfold hostL
  (first | lia | omega)
section
variable {prog : Program} {w : World} {A : Around} {E : Value → Shared → Prop} {s : Shared} {Q : Value → Shared → Prop} {mg mb : Str → Option Value} {l k : List Nat} {t u : Tok}
theorem c_host {n : Nat} {z : Int} (hzn : z = (n : Nat)) (W0 : Wd w mg mb s.heap) (hd : A.depth < recursionLimit) (hh : A.handled = none) (hn : n < 1000000)
    (hQ : ∀ h' t' tk', Ext s.heap h' → Q (.str (mk (hostL n)) t') { s with heap := h', toks := tk' }) :
    wpAny (model prog w) A (call (.ref 121) [.int z t]) Q E s := by
  subst hzn
  obtain ⟨ah, adp, afr, agd, aun⟩ := A
  dsimp only at hh hd
  subst hh
  obtain ⟨X, ⟨_, _, mean, T⟩, BT⟩ := id W0
  k_dflt (refine' enterC (binds := [(Str.ofString "number", .int (n : Nat) t)]) X T ?k6 ?k7 hd ?k9 ?kB ?kD ?c2 ?c3 ?c4 ?_; (case k6 => k_is); (case k7 => k_is); (case k9 => exact BindsTo.of_eq rfl); (case kB => exact kindsX rfl); (case kD => decide +kernel); (case c2 => exact rfl); (case c3 => exact rfl); (case c4 => exact rfl); k_whole; intro L h₁ tk cells F N Y; k_cells Y; (try simp only [List.cons_append, List.nil_append] at N); (try dsimp only); (try k_fold))
  walk_at "my steps"
  (rename Fr _ _ _ _ => Fz); (rename News _ _ _ _ => Nz)
  rename_i o1 o2 d1 d2 t1 k1 t2 k2 t3 k3 t4 k4 t5 k5 t6 k6 t7 k7 t8 k8 l9 h9 lt9 h10 co dco t11 k11
  have dn : o2.data = .cell (some (.int (n : Nat) t)) := d2
  have hpv : ∀ j, j < 8 → ∃ v, (#[Value.str (mk [97]) t1, Value.str (mk [46]) t2, Value.str (mk [46, 66]) t3, Value.str (mk [46, 55]) t4, Value.str (mk [55]) t5, Value.str (mk [42]) t6, Value.str (mk [91]) t7, Value.str (mk [46, 108, 111, 99, 97, 108]) t8] : Array Value)[j]? = some v ∧ StrV (pieceL j) v := fun j hj => by
    rcases j with _ | _ | _ | _ | _ | _ | _ | _ | j
    · exact ⟨_, rfl, _, rfl⟩
    · exact ⟨_, rfl, _, rfl⟩
    · exact ⟨_, rfl, _, rfl⟩
    · exact ⟨_, rfl, _, rfl⟩
    · exact ⟨_, rfl, _, rfl⟩
    · exact ⟨_, rfl, _, rfl⟩
    · exact ⟨_, rfl, _, rfl⟩
    · exact ⟨_, rfl, _, rfl⟩
    · (first | lia | omega)
  generalize hPV : (#[Value.str (mk [97]) t1, Value.str (mk [46]) t2, Value.str (mk [46, 66]) t3, Value.str (mk [46, 55]) t4, Value.str (mk [55]) t5, Value.str (mk [42]) t6, Value.str (mk [91]) t7, Value.str (mk [46, 108, 111, 99, 97, 108]) t8] : Array Value) = PV at hpv Nz
  have hPs : PV.size ≤ 8 := by rw [← hPV]; exact Nat.le_refl _
  clear hPV
  walk_at "my lc"
  rename_i hR tkR t₁ u₁ v₁ isR F1 N1 kR
  refine lc_any (List.range (n % 5)) (fun p => some (pieceL (n / 5 / 8 ^ p % 8))) (fun p v => ∃ t, v = .int (p : Nat) t) StrV (iter_range (by rfl) isR (n := n % 5) rfl (by (first | lia | omega)) F1 N1) (by simp) (fun i v h => ?_) (by simp; (first | lia | omega)) (by rfl) (by rfl) ?_ ?_
  · obtain ⟨hi, t, rfl⟩ := h
    exact ⟨i, by rw [List.getElem?_range hi], t, rfl⟩
  · intro C D2 oL I2 io i p v ys k mc h2 tk2 hn1 hv1 hmc F N
    show wpAny _ _ (eval _ _) _ _ _
    obtain ⟨tn, rfl⟩ := hv1
    have hp5 : p < 5 := by
      have := List.mem_range.mp (List.mem_of_getElem? hn1)
      (first | lia | omega)
    have h8 : 0 < 8 ^ p := Nat.pos_of_ne_zero (by simp)
    have h82 : 8 ^ p < 1073741824 := Nat.lt_of_le_of_lt (Nat.pow_le_pow_right (by decide) (show p ≤ 5 by (first | lia | omega))) (by decide)
    obtain ⟨pv, hpv1, hpv2⟩ := hpv (n / 5 / 8 ^ p % 8) (Nat.mod_lt _ (by decide))
    walk_at "my steps"
    exact endY F N rfl hpv2
  · intro D2 h2 tk2 ys k F N oD hA
    have hfl : (List.filterMap (fun p => some (pieceL (n / 5 / 8 ^ p % 8))) (List.range (n % 5))).flatten = hostL n := by
      rw [fm_map]; rfl
    walk_at "my steps"
    refine r_join (Li.led N (by k_mem)) hA (by rw [hfl]; have := hostL_len n; (first | lia | omega)) ?_
    intro t' k'
    rw [hfl]
    walk_at "my steps"
    exact hQ _ _ _ (Fr.keep F)
end
end
theorem walk_reset_F13 {M : Model} {A : Around} {E : Value → Shared → Prop} {s : Shared} {Q : Bool → Shared → Prop} (h : Q true s) : wpAny M A (truthy (.bool true)) Q E s := by first | (walk1; exact h) | exact wpAny_truthy_bool h
section
set_option maxRecDepth 100000
set_option maxHeartbeats 8000000
set_option linter.unusedVariables false
set_option linter.unusedSimpArgs false
open PySem PySem.W PySem.Calls PyProof.Rows
noncomputable def IntV (i : Nat) (v : Value) : Prop := ∃ t, v = .int (i : Nat) t
noncomputable def dotsL (h : List Nat) : List Nat := (List.range h.length).filter fun p => decide (h[p]? = some 46)
noncomputable def beginL (n : Nat) (h : List Nat) : Nat := (dotsL h ++ [0])[n / 4 % 4 % (dotsL h ++ [0]).length]?.getD 0
noncomputable def endsL (n : Nat) (h : List Nat) : List Nat := (dotsL h).filter (fun p => decide (beginL n h < p)) ++ [h.length]
noncomputable def endL (n : Nat) (h : List Nat) : Nat := (endsL n h)[n / 16 % 4 % (endsL n h).length]?.getD 0 - n / 64 % 2
noncomputable def cutL (n : Nat) (h : List Nat) : List Nat := (h.take (max (beginL n h) (endL n h))).drop (beginL n h)
noncomputable def ruleL (n : Nat) (h : List Nat) : List Nat := if n / 128 % 3 = 1 then up (cutL n h) else if n / 128 % 3 = 2 then low (cutL n h) else cutL n h
theorem pickA {as : List Nat} {vs : List Value} (h : All2 IntV as vs) (hne : 0 < as.length) (i : Nat) : ∃ v, vs.toArray[i % vs.toArray.size]? = some v ∧ IntV (as[i % as.length]?.getD 0) v := by
  have hlt : i % as.length < as.length := Nat.mod_lt _ hne
  have hsz : vs.toArray.size = as.length := by rw [List.size_toArray, h.len]
  obtain ⟨v, hv, hR⟩ := h.get (i := i % as.length) (a := as[i % as.length]) (by simp [hlt])
  refine ⟨v, by rw [hsz]; simpa using hv, ?_⟩
  rw [List.getElem?_eq_getElem hlt]; exact hR
section
variable {prog : Program} {w : World} {A : Around} {E : Value → Shared → Prop} {s : Shared} {Q : Value → Shared → Prop} {mg mb : Str → Option Value} {l k : List Nat} {t u : Tok}
local macro_rules | `(tactic| walk_at "my steps") => stepsOf ([ap ``subscriptTail [holeT, holeT, apH ``PySem.Value.ref 1, apH ``PySem.Value.int 2]] ++ stops2)
theorem c_rule {n : Nat} {z : Int} {Hs : Addr} {hs : List (List Nat)} {hv : List Value} (hzn : z = (n : Nat)) (W0 : Wd w mg mb s.heap) (hd : A.depth < recursionLimit) (hh : A.handled = none) (hn : n < 1000000)
    (hH : s.heap.IsList Hs hv.toArray) (hhv : All2 StrV hs hv) (h4 : hs.length = 4) (hl : ∀ h ∈ hs, h.length ≤ 100) (ha : ∀ h ∈ hs, Asc h)
    (hQ : ∀ h' t' tk', Ext s.heap h' → Q (.str (mk (ruleL n (hs.getD (n % 4) []))) t') { s with heap := h', toks := tk' }) :
    wpAny (model prog w) A (call (.ref 126) [.int z t, .ref Hs]) Q E s := by
  subst hzn
  obtain ⟨ah, adp, afr, agd, aun⟩ := A
  dsimp only at hh hd
  subst hh
  obtain ⟨X, ⟨_, _, mean, T⟩, BT⟩ := id W0
  obtain ⟨hN, hN1⟩ : ∃ h, hs[n % 4]? = some h := ⟨hs[n % 4]'(by (first | lia | omega)), by simp [h4]⟩
  obtain ⟨vN, hvN, tN, rfl⟩ := hhv.get hN1
  have hmem : hN ∈ hs := List.mem_of_getElem? hN1
  have hNl := hl _ hmem
  have hNa := ha _ hmem
  rw [show hs.getD (n % 4) [] = hN by rw [List.getD_eq_getElem?_getD, hN1]; rfl] at hQ
  have hvz : hv.toArray.size = 4 := by rw [List.size_toArray, ← hhv.len, h4]
  have hvN' : hv.toArray[n % 4]? = some (.str (mk hN) tN) := by simpa using hvN
  k_dflt (refine' enterC (binds := [(Str.ofString "number", .int (n : Nat) t), (Str.ofString "hosts", .ref Hs)]) X T ?k6 ?k7 hd ?k9 ?kB ?kD ?c2 ?c3 ?c4 ?_; (case k6 => k_is); (case k7 => k_is); (case k9 => exact BindsTo.of_eq rfl); (case kB => exact kindsX rfl); (case kD => decide +kernel); (case c2 => exact rfl); (case c3 => exact rfl); (case c4 => exact rfl); k_whole; intro L h₁ tk cells F N Y; k_cells Y; (try simp only [List.cons_append, List.nil_append] at N); (try dsimp only); (try k_fold))
  walk_at "my steps"
  refine Li.r_at (hH.at fun o e => Fr.keep (by assumption) _ o e) (by rw [hvz]; decide) hvN' rfl ?_
  walk_at "my steps"
  (rename Fr _ _ _ _ => Fz); (rename News _ _ _ _ => Nz)
  rename_i o1 o2 d1 d2 t1 k1 h1 co dco
  walk_at "my lcA"
  rename_i t2 k2 hR tkR t₁ u₁ v₁ isR F1 N1 kR
  try clear Fz Nz
  refine lc_any (List.range hN.length) (fun p => if decide (hN[p]? = some 46) = true then some p else none) IntV IntV (iter_range (by rfl) isR (n := hN.length) rfl (by (first | lia | omega)) F1 N1) (by simp) (fun i v h => ?_) (by simp; (first | lia | omega)) (by rfl) (by rfl) ?_ ?_
  · obtain ⟨hi, t, rfl⟩ := h
    exact ⟨i, by rw [List.getElem?_range hi], t, rfl⟩
  · intro C D2 oL I2 io i p v ys k mc h2 tk2 hn1 hv1 hmc F N
    show wpAny _ _ (isTrue _ _ _) _ _ _
    obtain ⟨tn, rfl⟩ := hv1
    have hp : p < hN.length := List.mem_range.mp (List.mem_of_getElem? hn1)
    obtain ⟨c, hc⟩ : ∃ c, hN[p]? = some c := ⟨hN[p], by simp [hp]⟩
    by_cases hc46 : c = 46
    · walk_at "my steps"
      (rename Fr _ _ _ _ => Fz); (rename News _ _ _ _ => Nz)
      exact endY Fz Nz (if_pos (by rw [hc, hc46]; rfl)) ⟨tn, rfl⟩
    · walk_at "my steps"
      (rename Fr _ _ _ _ => Fz); (rename News _ _ _ _ => Nz)
      exact endC Fz Nz (if_neg (by rw [hc]; simpa using hc46))
  · intro D2 h2 tk2 ys k F N oD hA
    rw [fm_filter] at hA
    have hA' : All2 IntV (dotsL hN) ys := hA
    have hyl : ys.length ≤ 100 := by
      rw [← hA'.len]
      exact Nat.le_trans (List.length_filter_le _ _) (by rw [List.length_range]; exact hNl)
    have oD1 : L + 1 ≠ D2 := oD (L + 1, co) (by k_mem)
    have oD2 : L + 1 + 1 ≠ D2 := oD (L + 1 + 1, _) (.head _)
    replace F : Fr s.heap L h2 _ := F
    replace N : News s.heap L h2 _ := N
    walk_at "my steps"
    obtain ⟨bv, hbv1, tb, rfl⟩ := pickA (hA'.snoc ⟨tk2, rfl⟩ : All2 IntV (dotsL hN ++ [0]) (ys ++ [Value.int 0 tk2])) (by simp) (n / 4 % 4)
    (rename Fr _ _ _ _ => Fz); (rename News _ _ _ _ => Nz)
    have hz5 : (ys ++ [Value.int 0 tk2]).toArray.size ≤ 100000 := by simp; (first | lia | omega)
    have oD2' : D2 ≠ L + 1 + 1 := Ne.symm oD2
    have oD1' : D2 ≠ L + 1 := Ne.symm oD1
    refine Li.r_at (Li.led Nz (by k_mem)) hz5 hbv1 rfl ?_
    change wpAny _ _ (storeName _ _ (Value.int ((beginL n hN : Nat) : Int) tb)) _ _ _
    clear hbv1
    walk_at "my steps"
    try clear Fz Nz
    (rename Fr _ _ _ _ => Fz); (rename News _ _ _ _ => Nz)
    rename_i oB dB
    walk_at "my lc"
    refine lc_any (dotsL hN) (fun p => if decide (beginL n hN < p) = true then some p else none) IntV IntV (iter_list (by rfl) (Li.led Nz (by k_mem)) Fz Nz (.inr (by simp))) hA'.len (fun i v h => hA'.back h) (by rw [hA'.len]; (first | lia | omega)) (by rfl) (by rfl) ?_ ?_
    · intro C D3 oL I2 io i p v ys3 k3 mc h2 tk2 hn1 hv1 hmc F N
      show wpAny _ _ (isTrue _ _ _) _ _ _
      obtain ⟨tn, rfl⟩ := hv1
      by_cases hbp : beginL n hN < p
      · walk_at "my steps"
        (rename Fr _ _ _ _ => Fz); (rename News _ _ _ _ => Nz)
        exact endY Fz Nz (if_pos (decide_eq_true hbp)) ⟨tn, rfl⟩
      · walk_at "my steps"
        (rename Fr _ _ _ _ => Fz); (rename News _ _ _ _ => Nz)
        exact endC Fz Nz (if_neg (by simpa using hbp))
    · intro D3 h3 tk3 ys3 k3 F N oD3 hA3
      rw [fm_filter] at hA3
      have hyl3 : ys3.length ≤ 100 := by
        rw [← hA3.len]
        exact Nat.le_trans (List.length_filter_le _ _) (by rw [hA'.len]; exact hyl)
      replace N := newsSub (news' := [(D3, W.listOf ys3.toArray k3), (L + 1 + 1, oB), (L + 1, co)]) N (by walk_at "msub")
      try clear Fz Nz
      replace F : Fr s.heap L h3 _ := F
      replace N : News s.heap L h3 _ := N
      walk_at "my steps"
      (rename Fr _ _ _ _ => Fz); (rename News _ _ _ _ => Nz)
      rename_i tE kE lE hE ltE aE hE2 ltE2 hE3 t1e k1e t2e k2e t3e k3e t4e k4e
      have hAE : All2 IntV (endsL n hN) (ys3 ++ [Value.int (hN.length : Nat) tE]) := hA3.snoc ⟨tE, rfl⟩
      obtain ⟨ev, hev1, te, rfl⟩ := pickA hAE (by simp [endsL]) (n / 16 % 4)
      have hz6 : (ys3 ++ [Value.int (hN.length : Nat) tE]).toArray.size ≤ 100000 := by simp; (first | lia | omega)
      refine Li.r_at (Li.led Nz (by k_mem)) hz6 hev1 rfl ?_
      generalize hev : (endsL n hN)[n / 16 % 4 % (endsL n hN).length]?.getD 0 = ee
      clear hev1
      have hcut : List.drop ((beginL n hN : Nat) : Int).toNat (List.take (if ((ee : Nat) : Int) - ((n / 64 % 2 : Nat) : Int) > ((beginL n hN : Nat) : Int) then ((ee : Nat) : Int) - ((n / 64 % 2 : Nat) : Int) else ((beginL n hN : Nat) : Int)).toNat hN) = cutL n hN := by
        unfold cutL endL
        rw [hev, cut_max]; rfl
      have hca : Asc (cutL n hN) := asc_drop (asc_take hNa)
      have hcl : (cutL n hN).length ≤ 100 := by unfold cutL; rw [List.length_drop, List.length_take]; exact Nat.le_trans (Nat.sub_le _ _) (Nat.le_trans (Nat.min_le_right _ _) (by assumption))
      walk_at "my steps"
      all_goals (try dsimp only)
      all_goals (refine endS (hQ _ _ _ (Fr.keep (by assumption))) ?_)
      all_goals (try rw [hcut])
      all_goals (unfold ruleL; split <;> (try split) <;> first | rfl | (exfalso; simp only [beq_iff_eq, beq_eq_false_iff_ne, ne_eq] at *; (first | lia | omega)))
end
end
theorem walk_reset_Sd {M : Model} {A : Around} {E : Value → Shared → Prop} {s : Shared} {Q : Bool → Shared → Prop} (h : Q true s) : wpAny M A (truthy (.bool true)) Q E s := by first | (walk1; exact h) | exact wpAny_truthy_bool h
section
set_option maxRecDepth 100000
set_option maxHeartbeats 8000000
set_option linter.unusedVariables false
set_option linter.unusedSimpArgs false
open PySem PySem.W PySem.Calls PyProof.Rows
/-- where the loop stands -/
inductive SlJ (as bs : List (List Nat)) (l1 l2 D1 D2 : Addr) (i j : Nat) (m : Str → Option Value) (news : List (Addr × Obj)) : Prop
  | is (ms us : List (List Nat)) (mv uv : List Value) (k1 k2 : Nat) (ti tj : Tok) (x1_ : Xc.Inv as bs i j ms us) (x2_ : All2 StrV ms mv) (x3_ : All2 StrV us uv) (x4_ : news = [(D2, W.listOf uv.toArray k2), (D1, W.listOf mv.toArray k1)]) (x5_ : m (Str.ofString "expected") = some (.ref l1)) (x6_ : m (Str.ofString "actual") = some (.ref l2)) (x7_ : m (Str.ofString "i") = some (.int (i : Nat) ti)) (x8_ : m (Str.ofString "j") = some (.int (j : Nat) tj)) (x9_ : m (Str.ofString "missing") = some (.ref D1)) (x10_ : m (Str.ofString "unexpected") = some (.ref D2)) : SlJ as bs l1 l2 D1 D2 i j m news
/-- an exception on its way to the handler -/
inductive SlE (as bs : List (List Nat)) (l1 l2 D1 D2 : Addr) (fs : List Addr) (g₀ : Heap) (L : Addr) (s : Shared) (e : Value) (s' : Shared) : Prop
  | is (ea m news cx i j h' tk : _) (x1_ : e = .ref ea) (x2_ : s' = { s with heap := h', toks := tk }) (x3_ : SlJ as bs l1 l2 D1 D2 i j m news) (x4_ : (as.length ≤ i ∨ bs.length ≤ j)) (x5_ : (Xc.Fly fs g₀ L m news cx (rawInt L) ea h' ∨ ∃ h, Fr g₀ L h m ∧ News g₀ L h news ∧ Xc.NewX h h' ea cx)) : SlE as bs l1 l2 D1 D2 fs g₀ L s e s'
/-- a turn has gone well -/
inductive SlT (as bs : List (List Nat)) (l1 l2 D1 D2 : Addr) (g₀ : Heap) (L : Addr) (s : Shared) (i j : Nat) (f : Flow) (s' : Shared) : Prop
  | is (x1_ : f = .next) (i' j' h' tk m news : _) (x2_ : i + j < i' + j') (x3_ : s' = { s with heap := h', toks := tk }) (x4_ : Fr g₀ L h' m) (x5_ : News g₀ L h' news) (x6_ : SlJ as bs l1 l2 D1 D2 i' j' m news) : SlT as bs l1 l2 D1 D2 g₀ L s i j f s'
section
variable {as bs : List (List Nat)} {l1 l2 D1 D2 L ea : Addr} {i j i' j' : Nat} {m : Str → Option Value} {news : List (Addr × Obj)} {s : Shared} {g₀ h h' : Heap} {tk : Nat} {fs : List Addr} {cx : Value}
theorem slT_of (F : Fr g₀ L h' m) (N : News g₀ L h' news) (hlt : i + j < i' + j') (J : SlJ as bs l1 l2 D1 D2 i' j' m news) : SlT as bs l1 l2 D1 D2 g₀ L s i j .next { s with heap := h', toks := tk } :=
  ⟨rfl, i', j', h', tk, m, news, hlt, rfl, F, N, J⟩
theorem slE_new (F : Fr g₀ L h m) (N : News g₀ L h news) (X : Xc.NewX h h' ea cx) (he : as.length ≤ i ∨ bs.length ≤ j) (J : SlJ as bs l1 l2 D1 D2 i j m news) : SlE as bs l1 l2 D1 D2 fs g₀ L s (.ref ea) { s with heap := h', toks := tk } :=
  ⟨ea, m, news, cx, i, j, h', tk, rfl, rfl, J, he, .inr ⟨h, F, N, X⟩⟩
theorem slE_fly (X : Xc.Fly fs g₀ L m news cx (rawInt L) ea h') (he : as.length ≤ i ∨ bs.length ≤ j) (J : SlJ as bs l1 l2 D1 D2 i j m news) : SlE as bs l1 l2 D1 D2 fs g₀ L s (.ref ea) { s with heap := h', toks := tk } :=
  ⟨ea, m, news, cx, i, j, h', tk, rfl, rfl, J, he, .inl X⟩
theorem inv_len {ms us : List (List Nat)} {mv : List Value} (v : Xc.Inv as bs i j ms us) (h : All2 StrV ms mv) (z : as.length ≤ 100) : mv.length ≤ 100 := by
  rw [← h.len, v.em]
  refine Nat.le_trans (List.length_filter_le _ _) ?_
  rw [List.length_take]
  (first | lia | omega)
end
section
variable {prog : Program} {w : World} {A : Around} {E : Value → Shared → Prop} {s : Shared} {Q : Value → Shared → Prop} {mg mb : Str → Option Value}
local macro_rules | `(tactic| walk_at "my steps") => stepsOf ([ap ``exec [apH ``Stmt.Try 5, holeT], ap ``subscriptTail [holeT, apH ``PySem.Expr.Name 2, apH ``PySem.Value.ref 1, apH ``PySem.Value.int 2], blT ``PySem.Value.builtin "list.extend"] ++ stops2)
local macro_rules | `(tactic| walk_at "pick") => altM [ex "Mine.Xc.pick_drop" "rfl"]
theorem c_sld {outer : List Env} {base : Heap} {p : Program} {loose : List Str} {mean : ExcName → Option Value} {l1 l2 : Addr} {as bs : List (List Nat)} {v1 v2 : List Value} (B : Below A base outer (hid s.heap)) (D : KtsDicts (fsOf outer) (hid s.heap)) (XB : (Mine.hd.heap_1 w.params).In base) (TB : Top p loose mean mg mb base)
    (W0 : Wd w mg mb s.heap) (hd : A.depth < recursionLimit) (hh : A.handled = none) (h1 : s.heap.IsList l1 v1.toArray) (h2 : s.heap.IsList l2 v2.toArray) (a1 : All2 StrV as v1) (a2 : All2 StrV bs v2) (z1 : as.length ≤ 100) (z2 : bs.length ≤ 100) (s1 : as.Pairwise (· < ·)) (s2 : bs.Pairwise (· < ·))
    (hQ : ∀ h' r b c (bv cv : List Value) n1 n2 n3 tk', SameS (fsOf outer) s.heap h' → h'.get? r = some { cls := .type "tuple", data := .seq #[.ref b, .ref c] n1 } → s.heap.get? r = none → h'.get? b = some (W.listOf bv.toArray n2) → s.heap.get? b = none → h'.get? c = some (W.listOf cv.toArray n3) → s.heap.get? c = none →
      All2 StrV (as.filter fun a => !decide (a ∈ bs)) bv → All2 StrV (bs.filter fun a => !decide (a ∈ as)) cv → Q (.ref r) { s with heap := h', toks := tk' }) :
    wpAny (model prog w) A (call (.ref 116) [.ref l1, .ref l2]) Q E s := by
  obtain ⟨ah, adp, afr, agd, aun⟩ := A
  dsimp only at hh hd
  subst hh
  obtain ⟨X, ⟨_, _, mean1, T⟩, BT⟩ := id W0
  have hd' : adp < recursionLimit := hd
  have B' : Below _ base outer s.heap := ⟨B.stack, fun b o e => hid_of (B.stays b o e), B.frames.of_keeps fun b o e _ => ⟨o, hid_of e, rfl⟩⟩
  have D' : KtsDicts (fsOf outer) s.heap := fun b hb => by obtain ⟨o, es, n, ho, hdd⟩ := D b hb; exact ⟨o, es, n, hid_of ho, hdd⟩
  have w1 := a1.len
  have w2 := a2.len
  have y1 : v1.length ≤ 100 := by rw [← a1.len]; exact z1
  have y2 : v2.length ≤ 100 := by rw [← a2.len]; exact z2
  k_dflt (refine' enter (binds := [(Str.ofString "expected", .ref l1), (Str.ofString "actual", .ref l2)]) X T ?k6 ?k7 hd' ?k9 ?kB ?c5 ?c2 ?c3 ?c4 ?_; walk_at "my enter"; intro L h₁ F N; walk_at "my fold")
  walk_at "my steps"
  rename_i tk1 g1 g2 D1 g3 l1' g4 tk2 D2 g5 lt12 g6 F6 N6
  have hne : @Ne Nat D2 D1 := Nat.ne_of_gt lt12
  refine my_while (n₀ := as.length + bs.length) (fun n m news => ∃ i j, n + i + j = as.length + bs.length ∧ SlJ as bs l1 l2 D1 D2 i j m news) F6 N6 ⟨0, 0, rfl, [], [], [], [], 0, 0, _, _, Xc.Inv.start, .nil, .nil, rfl, rfl, rfl, rfl, rfl, rfl, rfl⟩ ?_
  clear F6 N6
  rintro n m₁ news₁ hp₁ tk₁ F N ⟨i, j, hn, ms, us, mv, uv, k1, k2, ti, tj, iv, am, au, hnews, me, ma, mi, mj, mm, mu⟩
  subst hnews
  have zi := iv.hi
  have zj := iv.hj
  have zm := inv_len iv am z1
  have zu := inv_len iv.swap au z2
  walk_at "my steps"
  refine wpAny_Try_except ?_
  refine wpAny_mono (Q := SlT as bs l1 l2 D1 D2 s.heap L s i j) (E := SlE as bs l1 l2 D1 D2 (fsOf outer) s.heap L s) ?_ ?_ ?_
  · walk_at "my steps"
    by_cases hi : i < as.length
    · obtain ⟨x, hx⟩ : ∃ x, as[i]? = some x := ⟨as[i], by simp [hi]⟩
      obtain ⟨_, hv1, tx, rfl⟩ := a1.get hx
      k_dflt (refine Li.r_at (h1.at fun o e => F.keep _ o e) (by simp; (first | lia | omega)) (j := i) (by simpa using hv1) rfl ?_)
      walk_at "my steps"
      (rename Fr _ _ _ _ => Fz); (rename News _ _ _ _ => Nz)
      try clear F N
      by_cases hj : j < bs.length
      · obtain ⟨y, hy⟩ : ∃ y, bs[j]? = some y := ⟨bs[j], by simp [hj]⟩
        obtain ⟨_, hv2, ty, rfl⟩ := a2.get hy
        k_dflt (refine Li.r_at (h2.at fun o e => Fz.keep _ o e) (by simp; (first | lia | omega)) (j := j) (by simpa using hv2) rfl ?_)
        rcases Std.lt_trichotomy x y with lxy | rfl | lxy
        · have c1 : decide (x < y) = true := decide_eq_true lxy
          walk_at "my steps"
          refine Xc.while_once ?_
          walk_at "my steps"
          (rename Fr _ _ _ _ => Fb); (rename News _ _ _ _ => Nb)
          simp only [List.push_toArray] at Nb
          by_cases h3 : i + 1 < as.length
          · obtain ⟨z, hz⟩ : ∃ z, as[i + 1]? = some z := ⟨as[i + 1], by simp [h3]⟩
            obtain ⟨_, hv3, tz, rfl⟩ := a1.get hz
            k_dflt (refine Li.r_at (h1.at fun o e => Fb.keep _ o e) (by simp; (first | lia | omega)) (j := i + 1) (by simpa using hv3) (by (first | lia | omega)) ?_)
            have c3 : decide (z = x) = false := decide_eq_false (Xc.next_ne s1 hx hz)
            walk_at "my steps"
            refine slT_of Fb Nb (i' := i + 1) (j' := j) (by (first | lia | omega)) ?_
            exact ⟨ms ++ [x], us, mv ++ [.str (mk x) tx], uv, k1 + 1, k2, _, tj, iv.less hx hy s2 lxy, am.snoc ⟨_, rfl⟩, au, rfl, me, ma, intE (by push_cast; rfl), mj, mm, mu⟩
          · refine Xc.raise_at (j := i + 1) (cx := .none) (.inl ⟨rfl, rfl⟩) (h1.at fun o e => Fb.keep _ o e) (by simp; (first | lia | omega)) (by simp; (first | lia | omega)) (by (first | lia | omega)) (by (first | lia | omega)) ?_
            intro h' tk' ea nx
            refine Xc.raised_in B' D' Fb Nb nx ?q1 ?q2 ?q3
            case q1 => exact Around.frames_deeper B'.stack
            case q2 => rfl
            case q3 =>
            intro h'' xf
            refine slE_fly xf (i := i + 1) (j := j) (.inl (by (first | lia | omega))) ?_
            exact ⟨ms ++ [x], us, mv ++ [.str (mk x) tx], uv, k1 + 1, k2, _, tj, iv.less hx hy s2 lxy, am.snoc ⟨_, rfl⟩, au, rfl, me, ma, intE (by push_cast; rfl), mj, mm, mu⟩
        · have c1 : decide (x < x) = false := decide_eq_false (Xc.ltL_irrefl x)
          have ivs := iv.same hx hy s1 s2
          walk_at "my steps"
          refine wpAny_Try_finally ?_
          walk_at "my steps"
          refine Xc.while_once ?_
          walk_at "my steps"
          (rename Fr _ _ _ _ => Fb); (rename News _ _ _ _ => Nb)
          by_cases h3 : i + 1 < as.length
          · obtain ⟨z, hz⟩ : ∃ z, as[i + 1]? = some z := ⟨as[i + 1], by simp [h3]⟩
            obtain ⟨_, hv3, tz, rfl⟩ := a1.get hz
            k_dflt (refine Li.r_at (h1.at fun o e => Fb.keep _ o e) (by simp; (first | lia | omega)) (j := i + 1) (by simpa using hv3) (by (first | lia | omega)) ?_)
            have c3 : decide (z = x) = false := decide_eq_false (Xc.next_ne s1 hx hz)
            walk_at "my steps"
            refine Xc.while_once ?_
            walk_at "my steps"
            (rename Fr _ _ _ _ => Fc); (rename News _ _ _ _ => Nc)
            by_cases h4 : j + 1 < bs.length
            · obtain ⟨u, hu⟩ : ∃ u, bs[j + 1]? = some u := ⟨bs[j + 1], by simp [h4]⟩
              obtain ⟨_, hv4, tu, rfl⟩ := a2.get hu
              k_dflt (refine Li.r_at (h2.at fun o e => Fc.keep _ o e) (by simp; (first | lia | omega)) (j := j + 1) (by simpa using hv4) (by (first | lia | omega)) ?_)
              have c4 : decide (u = x) = false := decide_eq_false (Xc.next_ne s2 hy hu)
              walk_at "my steps"
              refine slT_of Fc Nc (i' := i + 1) (j' := j + 1) (by (first | lia | omega)) ?_
              exact ⟨ms, us, mv, uv, k1, k2, _, _, ivs, am, au, rfl, me, ma, intE (by push_cast; rfl), intE (by push_cast; rfl), mm, mu⟩
            · refine Xc.raise_at (j := j + 1) (cx := .none) (.inl ⟨rfl, rfl⟩) (h2.at fun o e => Fc.keep _ o e) (by simp; (first | lia | omega)) (by simp; (first | lia | omega)) (by (first | lia | omega)) (by (first | lia | omega)) ?_
              intro h' tk' ea nx
              refine Xc.raised_in B' D' Fc Nc nx ?q1 ?q2 ?q3
              case q1 => exact Around.frames_deeper B'.stack
              case q2 => rfl
              case q3 =>
              intro h'' xf
              refine Xc.passed_on xf ?_
              intro h6 xf6
              refine slE_fly xf6 (i := i + 1) (j := j + 1) (.inr (by (first | lia | omega))) ?_
              exact ⟨ms, us, mv, uv, k1, k2, _, _, ivs, am, au, rfl, me, ma, intE (by push_cast; rfl), intE (by push_cast; rfl), mm, mu⟩
          · refine Xc.raise_at (j := i + 1) (cx := .none) (.inl ⟨rfl, rfl⟩) (h1.at fun o e => Fb.keep _ o e) (by simp; (first | lia | omega)) (by simp; (first | lia | omega)) (by (first | lia | omega)) (by (first | lia | omega)) ?_
            intro h' tk' ea nx
            refine Xc.raised_in B' D' Fb Nb nx ?q1 ?q2 ?q3
            case q1 => exact Around.frames_deeper B'.stack
            case q2 => rfl
            case q3 =>
            intro h'' xf
            refine Xc.note_again xf ?_
            refine ⟨ref_ne_byPass _, ?_⟩
            refine Xc.note_again xf (Xc.flight xf fun h3' xf3 => ?_)
            clear xf
            obtain ⟨g', T', oe, oT, vs, ts, TT, Ff, Nf, hTe, hn', hc, hdd, e1, e2, hdT, e3⟩ := xf3
            clear Fb Nb nx
            have h2' := Xc.list_turn TT h2
            walk_at "my steps"
            refine Xc.while_once ?_
            walk_at "my steps"
            (rename Fr _ _ _ _ => Fc); (rename News _ _ _ _ => Nc)
            by_cases h4 : j + 1 < bs.length
            · obtain ⟨u, hu⟩ : ∃ u, bs[j + 1]? = some u := ⟨bs[j + 1], by simp [h4]⟩
              obtain ⟨_, hv4, tu, rfl⟩ := a2.get hu
              k_dflt (refine Li.r_at (h2'.at fun o e => Fc.keep _ o e) (by simp; (first | lia | omega)) (j := j + 1) (by simpa using hv4) (by (first | lia | omega)) ?_)
              have c4 : decide (u = x) = false := decide_eq_false (Xc.next_ne s2 hy hu)
              walk_at "my steps"
              show wpAny _ _ (PySem.passOn _ _ _) _ _ _
              refine Xc.pass (fl := _) ⟨g', T', oe, oT, vs, ts, TT, Fc, Nc, hTe, hn', hc, hdd, e1, e2, hdT, e3⟩ ?_
              intro h5 xf5
              refine slE_fly xf5 (i := i + 1) (j := j + 1) (.inl (by (first | lia | omega))) ?_
              exact ⟨ms, us, mv, uv, k1, k2, _, _, ivs, am, au, rfl, me, ma, intE (by push_cast; rfl), intE (by push_cast; rfl), mm, mu⟩
            · refine Xc.raise_at (j := j + 1) (cx := .ref ea) (.inr ⟨ea, oe, vs, rfl, rfl, (Nc _ (.head _)).1, hdd, e2⟩) (h2'.at fun o e => Fc.keep _ o e) (by simp; (first | lia | omega)) (by simp; (first | lia | omega)) (by (first | lia | omega)) (by (first | lia | omega)) ?_
              intro h' tk' eb nx
              refine Xc.raised_in (Xc.below_turn B' TT) (D'.turn TT) Fc Nc nx ?q1 ?q2 ?q3
              case q1 => exact Around.frames_deeper B'.stack
              case q2 => rfl
              case q3 =>
              intro h'' xf
              refine Xc.passed_on xf ?_
              intro h6 xf6
              refine slE_fly (Xc.Fly.up TT (Xc.Fly.sub (fun p hp => .tail _ (.tail _ hp)) xf6)) (i := i + 1) (j := j + 1) (.inr (by (first | lia | omega))) ?_
              exact ⟨ms, us, mv, uv, k1, k2, _, _, ivs, am, au, rfl, me, ma, intE (by push_cast; rfl), intE (by push_cast; rfl), mm, mu⟩
        · have c1 : decide (x < y) = false := decide_eq_false fun q => Xc.ltL_irrefl x (List.lt_trans q lxy)
          have c2 : decide (y < x) = true := decide_eq_true lxy
          walk_at "my steps"
          refine Xc.while_once ?_
          walk_at "my steps"
          (rename Fr _ _ _ _ => Fb); (rename News _ _ _ _ => Nb)
          simp only [List.push_toArray] at Nb
          by_cases h3 : j + 1 < bs.length
          · obtain ⟨z, hz⟩ : ∃ z, bs[j + 1]? = some z := ⟨bs[j + 1], by simp [h3]⟩
            obtain ⟨_, hv3, tz, rfl⟩ := a2.get hz
            k_dflt (refine Li.r_at (h2.at fun o e => Fb.keep _ o e) (by simp; (first | lia | omega)) (j := j + 1) (by simpa using hv3) (by (first | lia | omega)) ?_)
            have c3 : decide (z = y) = false := decide_eq_false (Xc.next_ne s2 hy hz)
            walk_at "my steps"
            refine slT_of Fb Nb (i' := i) (j' := j + 1) (by (first | lia | omega)) ?_
            exact ⟨ms, us ++ [y], mv, uv ++ [.str (mk y) ty], k1, k2 + 1, ti, _, (iv.swap.less hy hx s1 lxy).swap, am, au.snoc ⟨_, rfl⟩, rfl, me, ma, mi, intE (by push_cast; rfl), mm, mu⟩
          · refine Xc.raise_at (j := j + 1) (cx := .none) (.inl ⟨rfl, rfl⟩) (h2.at fun o e => Fb.keep _ o e) (by simp; (first | lia | omega)) (by simp; (first | lia | omega)) (by (first | lia | omega)) (by (first | lia | omega)) ?_
            intro h' tk' ea nx
            refine Xc.raised_in B' D' Fb Nb nx ?q1 ?q2 ?q3
            case q1 => exact Around.frames_deeper B'.stack
            case q2 => rfl
            case q3 =>
            intro h'' xf
            refine slE_fly xf (i := i) (j := j + 1) (.inr (by (first | lia | omega))) ?_
            exact ⟨ms, us ++ [y], mv, uv ++ [.str (mk y) ty], k1, k2 + 1, ti, _, (iv.swap.less hy hx s1 lxy).swap, am, au.snoc ⟨_, rfl⟩, rfl, me, ma, mi, intE (by push_cast; rfl), mm, mu⟩
      · refine Xc.raise_at (j := j) (cx := .none) (.inl ⟨rfl, rfl⟩) (h2.at fun o e => Fz.keep _ o e) (by simp; (first | lia | omega)) (by simp; (first | lia | omega)) rfl (by (first | lia | omega)) ?_
        intro h' tk' ea nx
        exact slE_new Fz Nz nx (.inr (by (first | lia | omega))) ⟨ms, us, mv, uv, k1, k2, ti, tj, iv, am, au, rfl, me, ma, mi, mj, mm, mu⟩
    · refine Xc.raise_at (j := i) (cx := .none) (.inl ⟨rfl, rfl⟩) (h1.at fun o e => F.keep _ o e) (by simp; (first | lia | omega)) (by simp; (first | lia | omega)) rfl (by (first | lia | omega)) ?_
      intro h' tk' ea nx
      exact slE_new F N nx (.inl (by (first | lia | omega))) ⟨ms, us, mv, uv, k1, k2, ti, tj, iv, am, au, rfl, me, ma, mi, mj, mm, mu⟩
  · rintro f s' ⟨rfl, i', j', h', tk, m, news, hlt, rfl, F, N, J⟩
    walk_at "my steps"
    have q1 := J
    obtain ⟨_, _, _, _, _, _, _, _, jv, _⟩ := q1
    have q2 := jv.hi
    have q3 := jv.hj
    exact endJ F N (n' := as.length + bs.length - i' - j') (by (first | lia | omega)) ⟨i', j', by (first | lia | omega), J⟩
  · rintro e s' ⟨ea, m, news, cx, i', j', h', tk, rfl, rfl, ⟨ms, us, mv, uv, k1, k2, ti, tj, iv, am, au, hnews, me, ma, mi, mj, mm, mu⟩, he, x⟩
    subst hnews
    have zm := inv_len iv am z1
    have zu := inv_len iv.swap au z2
    have dm := iv.done he
    have du := iv.swap.done he.symm
    refine wpAny_mono (Q := fun _ s₂ => ∃ h2, s₂ = { s with heap := h2, toks := tk } ∧ Xc.Fly (fsOf outer) s.heap L m [(D2, W.listOf uv.toArray k2), (D1, W.listOf mv.toArray k1)] cx (rawInt L) ea h2) (E := fun _ _ => False) ?_ ?_ (fun _ _ h => h.elim)
    · rcases x with x | ⟨h, F, N, nx⟩
      · exact Xc.note_again x ⟨_, rfl, x⟩
      · exact Xc.note_new B' D' F N nx (Around.frames_deeper B'.stack) rfl fun h2 xf => ⟨h2, rfl, xf⟩
    · rintro _ s₂ ⟨hp2, rfl, xf⟩
      refine Xc.caught0 B' XB TB xf ?_
      intro g' hp3 TT F2 N2
      have h1' := Xc.list_turn TT h1
      have h2' := Xc.list_turn TT h2
      clear h1 h2 xf x
      have q2 := iv.hi
      have q3 := iv.hj
      walk_at "my steps"
      rename_i S1 hS1 FS1 NS1 lS1
      refine Xc.ext2 FS1 NS1 (Nat.ne_of_gt lS1.2) hne (by simp only [List.length_drop]; (first | lia | omega)) ?_
      clear FS1 NS1 lS1
      intro hp5 n5 F5 N5
      walk_at "my steps"
      rename_i S2 hS2 FS2 NS2 lS2
      refine Xc.ext1 FS2 NS2 (Nat.ne_of_gt lS2.1) hne.symm (by simp only [List.length_drop]; (first | lia | omega)) ?_
      clear FS2 NS2 lS2
      intro hp6 n6 F6 N6
      walk_at "my steps"
      try dsimp only
      unfold WhileStep2
      dsimp only
      walk_at "my steps"
      rename_i D3 hp7 F7 N7 l7
      have fresh : ∀ b, g'.get? b = none → s.heap.get? b = none := fun b q => by
        cases q0 : s.heap.get? b with
        | none => rfl
        | some o =>
          obtain ⟨_, hs⟩ := TT.up q0
          rw [q] at hs; cases hs
      have n3 := N7 _ (.head _)
      have n2 := N7 _ (.tail _ (.head _))
      have n1 := N7 _ (.tail _ (.tail _ (.head _)))
      refine hQ hp7 D3 D1 D2 (mv ++ v1.drop i') (uv ++ v2.drop j') 0 n5 n6 tk ⟨fun b o q hb => F7.keep _ _ (TT.other _ _ q hb), fun b o q hb => ?_⟩ n3.1 (fresh _ n3.2.2) n1.1 (fresh _ n1.2.2) n2.1 (fresh _ n2.2.2) ?_ ?_
      · obtain ⟨sl, hs⟩ := TT.frame _ _ q hb
        exact ⟨sl, F7.keep _ _ hs⟩
      · rw [← dm]; exact am.app (Xc.all2_drop a1 i')
      · rw [← du]; exact au.app (Xc.all2_drop a2 j')
end
end
section
set_option Elab.async false
set_option maxRecDepth 100000
set_option maxHeartbeats 2000000
open PySem PySem.W PySem.Calls PySem.Builtin PyProof.Rows
/-- how an iterator is driven into a frame, the names told -/
structure Turns2 (prog : Program) (w : World) (A : Around) (tg : PySem.Expr) (cenv : Env) (I : Addr) (fp wr : List Addr) (n : Nat) (Bd : Nat → (PySem.Str → Option Value) → (PySem.Str → Option Value) → Prop) (St : Nat → Heap → Prop) : Prop where
  sub : ∀ b ∈ wr, b ∈ fp
  own : ∀ i h, St i h → ∀ b ∈ wr, ∃ o, h.get? b = some o
  frame : ∀ i h h', St i h → (∀ b ∈ fp, ∀ o, h.get? b = some o → h'.get? b = some o) → St i h'
  item : ∀ i (s : Shared) m (Q : Shared → Prop), i < n → St i s.heap → s.heap.Ns cenv.locals m → cenv.locals ∉ fp →
    (∀ h' m' tk, h'.Ns cenv.locals m' → Bd i m m' → St (i + 1) h' → (∀ b o, b ≠ cenv.locals → b ∉ wr → s.heap.get? b = some o → h'.get? b = some o) → Q { s with heap := h', toks := tk }) →
    wpAny (model prog w) A (pyNext (.ref I)) (fun r s₁ => match r with
      | none => False
      | some v => wpAny (model prog w) A (letOwnedTupleGo tg (.ref I) v) (fun _ s₂ => wpAny (model prog w) A (assign tg cenv v) (fun _ s₃ => Q s₃) NoE s₂) NoE s₁) NoE s
  done : ∀ (s : Shared) (Q : Option Value → Shared → Prop), St n s.heap →
    (∀ h' tk, (∀ b o, b ∉ wr → s.heap.get? b = some o → h'.get? b = some o) → Q none { s with heap := h', toks := tk }) → wpAny (model prog w) A (pyNext (.ref I)) Q NoE s
  self : ∀ i (s : Shared) (Q : Value → Shared → Prop) (E : Value → Shared → Prop), St i s.heap → Q (.ref I) s → wpAny (model prog w) A (pyIter (.ref I)) Q E s
section
variable {prog : Program} {w : World} {A : Around} {cenv : Env} {I : Addr} {fp wr : List Addr} {n : Nat} {St : Nat → Heap → Prop}
theorem Turns2.toTurns {tg : PySem.Expr} {Bd : Nat → (PySem.Str → Option Value) → (PySem.Str → Option Value) → Prop} (T : Turns2 prog w A tg cenv I fp wr n Bd St) : Turns prog w A tg cenv I fp wr n (fun i m' => ∃ m, Bd i m m') St where
  sub := T.sub
  own := T.own
  frame := T.frame
  item := fun i s m Q hi hst hn hC hQ => T.item i s m Q hi hst hn hC fun h' m' tk a b c d => hQ h' m' tk a ⟨m, b⟩ c d
  done := T.done
  self := T.self
theorem Turns2.pair {Pt : Nat → Array Value → Prop} {Mid : Nat → Addr → Heap → Prop} {a b : PySem.Str} {pa pb tp : Pos} {kk : Nat} {P : Nat → Value → Value → Prop} (hh : A.handled = none) (U : WalksU prog w A I fp wr n Pt St Mid)
    (own : ∀ i h, St i h → ∀ b ∈ wr, ∃ o, h.get? b = some o) (ha : cenv.kindOf a = some .local) (hb : cenv.kindOf b = some .local) (hp : (cenv.scope.kind == .class || (cenv.scope.kind == .module && cenv.locals != cenv.globals)) = false)
    (hP : ∀ i vals, Pt i vals → ∃ x y, vals = #[x, y] ∧ P i x y) :
    Turns2 prog w A (.Tuple [.Name a pa, .Name b pb] kk tp) cenv I fp wr n (fun i m m' => ∃ x y, P i x y ∧ m' = fun z => if z = b then some y else if z = a then some x else m z) St where
  sub := U.sub
  own := own
  frame := U.frame
  item := fun i s m Q hi hst hn hC hQ => U.item i s _ _ hi hst fun T vals h' tk hPt hT hMid hk => by
    dsimp only
    have hCw : cenv.locals ∉ wr := fun q => hC (U.sub _ q)
    obtain ⟨x, y, rfl, hxy⟩ := hP i vals hPt
    refine U.go _ _ _ i T _ _ _ hMid fun h₂ hst₂ hk₂ => ?_
    have hTw := U.apart i T h' hMid
    have hT₂ : h₂.IsTuple T #[x, y] := by obtain ⟨o, ho, r⟩ := hT; exact ⟨o, hk₂ _ o hTw ho, r⟩
    have hn₂ : h₂.Ns cenv.locals m := (hn.at' fun o e => hk _ o hCw e).at' fun o e => hk₂ _ o hCw e
    refine kcp_assign hh hT₂ ha hb hp hn₂ fun h₃ tk₃ hn₃ hk₃ => ?_
    exact hQ h₃ _ tk₃ hn₃ ⟨x, y, hxy, rfl⟩ (U.frame _ _ _ hst₂ fun c hc o e => hk₃ c o (fun q => hC (by have q' : c = cenv.locals := q; rw [← q']; exact hc)) e) fun c o hcC hcw e => hk₃ c o hcC (hk₂ c o hcw (hk c o hcw e))
  done := fun s Q hst hQ => U.done s _ _ hst hQ
  self := U.self
end
section
variable {prog : Program} {w : World} {A : Around} {s : Shared} {env : Env} {h₀ : Heap} {m : PySem.Str → Option Value} {news wl0 : List (Addr × Obj)} {Qf : Flow → Shared → Prop}
inductive TnMid (h₀ : Heap) (L : Addr) (f : Heap → Nat → Shared) (led : List (Addr × Obj)) (J : (PySem.Str → Option Value) → Prop) (s₃ : Shared) : Prop
  | is (h' : Heap) (tk : Nat) (m' : PySem.Str → Option Value) (e : s₃ = f h' tk) (F : Fr h₀ L h' m') (N : News h₀ L h' led) (j : J m') : TnMid h₀ L f led J s₃
inductive TnInv (h₀ : Heap) (L : Addr) (s : Shared) (n : Nat) (St : Nat → Heap → Prop) (news : List (Addr × Obj)) (J : Nat → (PySem.Str → Option Value) → Prop) (k : Nat) (s' : Shared) : Prop
  | is (h' : Heap) (tk i : Nat) (m' : PySem.Str → Option Value) (e : s' = { s with heap := h', toks := tk }) (hi : i ≤ n) (hk : k = n + 1 - i) (st : St i h') (F : Fr h₀ L h' m') (hN : ∀ p ∈ news, h'.get? p.1 = some p.2) (j : J i m') : TnInv h₀ L s n St news J k s'
noncomputable def TnStep (h₀ : Heap) (L : Addr) (s : Shared) (led : List (Addr × Obj)) (J : (PySem.Str → Option Value) → Prop) (Qf : Flow → Shared → Prop) (f : Flow) (s₃ : Shared) : Prop :=
  match f with
  | .next | .cont => TnMid h₀ L (fun h tk => { s with heap := h, toks := tk }) led J s₃
  | .brk => Qf .next s₃
  | .ret v => Qf (.ret v) s₃
theorem endT {L : Addr} {led : List (Addr × Obj)} {J : (PySem.Str → Option Value) → Prop} {h' : Heap} {tk : Nat} {m' : PySem.Str → Option Value} (F : Fr h₀ L h' m') (N : News h₀ L h' led) (hJ : J m') : TnStep h₀ L s led J Qf .next { s with heap := h', toks := tk } := ⟨h', tk, m', rfl, F, N, hJ⟩
/-- a loop over an iterator, the ledger unchanged -/
theorem for_turns {tg : PySem.Expr} {body : List Stmt} {I : Addr} {fp wr : List Addr} {n : Nat} {Bd : Nat → (PySem.Str → Option Value) → (PySem.Str → Option Value) → Prop} {St : Nat → Heap → Prop} (J : Nat → (PySem.Str → Option Value) → Prop)
    (T : Turns2 prog w A tg env I fp wr n Bd St) (hst : St 0 s.heap) (F : Fr h₀ env.locals s.heap m) (N : News h₀ env.locals s.heap (wl0 ++ news)) (hwl : wl0.map (·.1) = wr) (off : ∀ p ∈ news, p.1 ∉ wr)
    (hfp : ∀ b ∈ fp, b ∈ wr ∨ (∃ o, h₀.get? b = some o) ∨ b ∈ news.map (·.1)) (hJ : J 0 m)
    (turn : ∀ wl i m₁ m₂ h₁ tk₁, wl.map (·.1) = wr → i < n → Bd i m₁ m₂ → J i m₁ → Fr h₀ env.locals h₁ m₂ → News h₀ env.locals h₁ (wl ++ news) →
      wpAny (model prog w) A (execs body env) (TnStep h₀ env.locals s (wl ++ news) (J (i + 1)) Qf) NoE { s with heap := h₁, toks := tk₁ })
    (done : ∀ m₁ h₁ tk₁, J n m₁ → Fr h₀ env.locals h₁ m₁ → News h₀ env.locals h₁ news → Qf .next { s with heap := h₁, toks := tk₁ }) :
    codeAny (model prog w) A (.forLoop tg (.ref I) body [] env) (fun r s' => match r with | .ok f => Qf f s' | .error e => cameBackBy (model prog w) A env NoE e s') s := by
  have hwr0 : ∀ b ∈ wr, h₀.get? b = none ∧ b ≠ env.locals := fun b hb => by
    have : b ∈ (wl0 ++ news).map (·.1) := by rw [List.map_append, hwl]; exact List.mem_append.mpr (.inl hb)
    exact ⟨(newsMem N this).2.2, (newsMem N this).2.1⟩
  have hL0 : h₀.get? env.locals = none := by
    cases e : h₀.get? env.locals with
    | none => rfl
    | some o => exact absurd (Heap.lt_size e) (Nat.not_lt.mpr F.above)
  have hLw : env.locals ∉ wr := fun h => (hwr0 _ h).2 rfl
  have hNn : ∀ p ∈ news, p.1 ≠ env.locals ∧ h₀.get? p.1 = none := fun p hp => (N p (List.mem_append.mpr (.inr hp))).2
  have hLfp : env.locals ∉ fp := fun q => by
    rcases hfp _ q with h | ⟨o, h⟩ | h
    · exact hLw h
    · rw [hL0] at h; cases h
    · obtain ⟨p, hp, e⟩ := List.mem_map.mp h
      exact (hNn p hp).1 e
  let Inv : Nat → Shared → Prop := TnInv h₀ env.locals s n St news J
  refine codeAny_forLoop_any Inv ?_ (n + 1) ⟨s.heap, s.toks, 0, m, rfl, Nat.zero_le _, rfl, hst, F, fun p hp => (N p (List.mem_append.mpr (.inr hp))).1, hJ⟩
  rintro k s' ⟨h', tk, i, m', rfl, hi, rfl, hst', F', hN', hJ'⟩
  have keep : ∀ {h₁ : Heap}, (∀ b o, b ∉ wr → h'.get? b = some o → h₁.get? b = some o) → (∀ b o, h₀.get? b = some o → h₁.get? b = some o) ∧ (∀ p ∈ news, h₁.get? p.1 = some p.2) := fun hk =>
    ⟨fun b o e => hk b o (fun q => by rw [(hwr0 _ q).1] at e; cases e) (F'.keep b o e), fun p hp => hk _ _ (off p hp) (hN' p hp)⟩
  by_cases hlt : i < n
  · refine wpAny_mono (T.item i _ m' (fun s₃ => wpAny (model prog w) A (execs body env) (fun f s₃ => match f with
            | .next | .cont => ∃ m, m < n + 1 - i ∧ Inv m s₃
            | .brk => Qf .next s₃
            | .ret v => Qf (.ret v) s₃) NoE s₃) hlt hst' F'.ns hLfp fun h₂ m₂ tk₂ hn₂ hb₂ hst₂ hk₂ => ?_) (fun r s₁ hr => ?_) fun _ _ e => e.elim
    · obtain ⟨wl, hwl2, hwo⟩ := pickObjs (T.own _ _ hst₂)
      have hg₂ : ∀ b o, h₀.get? b = some o → h₂.get? b = some o := fun b o e => hk₂ b o (fun q => by rw [q, hL0] at e; cases e) (fun q => by rw [(hwr0 _ q).1] at e; cases e) (F'.keep b o e)
      have hN₂ : ∀ p ∈ news, h₂.get? p.1 = some p.2 := fun p hp => hk₂ _ _ (hNn p hp).1 (off p hp) (hN' p hp)
      have F₂ : Fr h₀ env.locals h₂ m₂ := ⟨hn₂, hg₂, F.above⟩
      have N₂ : News h₀ env.locals h₂ (wl ++ news) := fun p hp => by
        rcases List.mem_append.mp hp with hp | hp
        · have hb : p.1 ∈ wr := by rw [← hwl2]; exact List.mem_map_of_mem hp
          exact ⟨hwo p hp, (hwr0 _ hb).2, (hwr0 _ hb).1⟩
        · exact ⟨hN₂ p hp, hNn p hp⟩
      refine wpAny_mono (turn wl i m' m₂ h₂ tk₂ hwl2 hlt hb₂ hJ' F₂ N₂) (fun f s₃ h₃ => ?_) fun _ _ e => e
      have fin : TnMid h₀ env.locals (fun h tk => { s with heap := h, toks := tk }) (wl ++ news) (J (i + 1)) s₃ → ∃ m, m < n + 1 - i ∧ Inv m s₃ := by
        rintro ⟨h₄, tk₄, m₄, rfl, F₄, N₄, hJ₄⟩
        refine ⟨n + 1 - (i + 1), stepLt (Nat.le_of_lt (by assumption)), h₄, tk₄, i + 1, m₄, rfl, hlt, rfl, T.frame _ _ _ hst₂ fun b hb o e => ?_, F₄, fun p hp => (N₄ p (List.mem_append.mpr (.inr hp))).1, hJ₄⟩
        rcases hfp b hb with h | ⟨o', h⟩ | h
        · rw [← hwl2] at h
          obtain ⟨p, hp, rfl⟩ := List.mem_map.mp h
          rw [hwo p hp] at e; rw [(N₄ p (List.mem_append.mpr (.inl hp))).1]; exact e
        · rw [hg₂ _ _ h] at e; rw [F₄.keep _ _ h]; exact e
        · obtain ⟨p, hp, rfl⟩ := List.mem_map.mp h
          rw [hN₂ p hp] at e; rw [(N₄ p (List.mem_append.mpr (.inr hp))).1]; exact e
      cases f with
      | next => exact fin h₃
      | cont => exact fin h₃
      | brk => exact h₃
      | ret v => exact h₃
    · cases r with
      | none => exact hr.elim
      | some v => exact wpAny_mono hr (fun _ s₂ h₂ => wpAny_mono h₂ (fun _ s₃ h₃ => wpAny_mono h₃ (fun f s₄ h₄ => by cases f <;> exact h₄) fun _ _ e => e.elim) fun _ _ e => e.elim) fun _ _ e => e.elim
  · have hin : i = n := by (first | lia | omega)
    subst hin
    refine wpAny_mono (T.done _ (fun r s₁ => r = none ∧ Qf .next s₁) hst' fun h₁ tk₁ hk₁ => ?_) (fun r s₁ hr => ?_) fun _ _ e => e.elim
    · obtain ⟨a, b⟩ := keep hk₁
      exact ⟨rfl, done m' h₁ tk₁ hJ' ⟨F'.ns.at' fun o e => hk₁ _ o hLw e, a, F'.above⟩ fun p hp => ⟨b p hp, hNn p hp⟩⟩
    · obtain ⟨rfl, hq⟩ := hr
      exact wpAny_execs_nil hq
/-- the state of a fresh zip -/
noncomputable def ZSt (z TI TO i1 i2 l1 l2 : Addr) (xs ys : List Value) (i : Nat) (h : Heap) : Prop :=
  IsZip h z TI TO .none ∧ IsPair h TI (.ref i1) (.ref i2) ∧ (∃ a b, IsPair h TO a b) ∧ h.IsListIter i1 l1 i ∧ h.IsListIter i2 l2 i ∧ h.IsList l1 xs.toArray ∧ h.IsList l2 ys.toArray
theorem r_zip {L l1 l2 : Addr} {xs ys : List Value} {E : Value → Shared → Prop} {Q : Value → Shared → Prop} (F : Fr h₀ L s.heap m) (N : News h₀ L s.heap news) (h1 : s.heap.IsList l1 xs.toArray) (h2 : s.heap.IsList l2 ys.toArray)
    (h : ∀ z TI TO i1 i2 oz oT oO o1 o2 h', ZipApart z TI TO i1 i2 l1 l2 → ZSt z TI TO i1 i2 l1 l2 xs ys 0 h' → Fr h₀ L h' m → News h₀ L h' ((z, oz) :: (TO, oO) :: (i1, o1) :: (i2, o2) :: (TI, oT) :: news) → (∀ p ∈ (TI, oT) :: news, p.1 ∉ [z, TO, i1, i2]) → Q (.ref z) { s with heap := h' }) :
    wpAny (model prog w) A (call (.type "zip") [.ref l1, .ref l2]) Q E s := by
  refine call_zip_2 h1 h2 fun h' hz hT hO hi1 hi2 hsz hk => ?_
  have n0 : ∀ a, s.heap.objs.size ≤ a → h₀.get? a = none ∧ a ≠ L ∧ s.heap.get? a = none := fun a ha => by
    have e1 : s.heap.get? a = none := by
      cases e : s.heap.get? a with
      | none => rfl
      | some o => exact absurd (Heap.lt_size e) (Nat.not_lt.mpr ha)
    refine ⟨?_, fun q => absurd F.ns.lt (Nat.not_lt.mpr (q ▸ ha)), e1⟩
    cases e : h₀.get? a with
    | none => rfl
    | some o => rw [F.keep _ _ e] at e1; cases e1
  have lt1 : l1 < s.heap.objs.size := by obtain ⟨_, e, _⟩ := h1; exact Heap.lt_size e
  have lt2 : l2 < s.heap.objs.size := by obtain ⟨_, e, _⟩ := h2; exact Heap.lt_size e
  generalize s.heap.objs.size = S at *
  obtain ⟨o1, g1, _⟩ := id hi1
  obtain ⟨o2, g2, _⟩ := id hi2
  have lt1' : @LT.lt Nat _ l1 S := lt1
  have lt2' : @LT.lt Nat _ l2 S := lt2
  have ltn : ∀ p ∈ news, @LT.lt Nat _ p.1 S := fun p hp => by
    have e := (N p hp).1
    exact Nat.lt_of_not_le fun q => by rw [(n0 p.1 q).2.2] at e; cases e
  have ap : ZipApart (S + 4) (S + 2) (S + 3) S (S + 1) l1 l2 := by
    constructor <;> (show @Ne Nat _ _; (first | lia | omega))
  obtain ⟨oz, gz⟩ : ∃ o, h'.get? (S + 4) = some o := ⟨_, hz⟩
  obtain ⟨oT, gT⟩ : ∃ o, h'.get? (S + 2) = some o := ⟨_, hT⟩
  obtain ⟨oO, gO⟩ : ∃ o, h'.get? (S + 3) = some o := ⟨_, hO⟩
  refine h (S + 4) (S + 2) (S + 3) S (S + 1) oz oT oO o1 o2 h' ap ⟨hz, hT, ⟨_, _, hO⟩, hi1, hi2, h1.at fun o e => hk _ o e, h2.at fun o e => hk _ o e⟩ (F.keeps hk) ?_ ?_
  · intro p hp
    simp only [List.mem_cons] at hp
    rcases hp with rfl | rfl | rfl | rfl | rfl | hp
    · exact ⟨gz, (n0 _ (by (first | lia | omega))).2.1, (n0 _ (by (first | lia | omega))).1⟩
    · exact ⟨gO, (n0 _ (by (first | lia | omega))).2.1, (n0 _ (by (first | lia | omega))).1⟩
    · exact ⟨g1, (n0 _ (by (first | lia | omega))).2.1, (n0 _ (by (first | lia | omega))).1⟩
    · exact ⟨g2, (n0 _ (by (first | lia | omega))).2.1, (n0 _ (by (first | lia | omega))).1⟩
    · exact ⟨gT, (n0 _ (by (first | lia | omega))).2.1, (n0 _ (by (first | lia | omega))).1⟩
    · exact ⟨hk _ _ (N p hp).1, (N p hp).2⟩
  · intro p hp q
    simp only [List.mem_cons, List.not_mem_nil, or_false] at hp q
    rcases hp with rfl | hp
    · have q' : @Eq Nat (S + 2) (S + 4) ∨ @Eq Nat (S + 2) (S + 3) ∨ @Eq Nat (S + 2) S ∨ @Eq Nat (S + 2) (S + 1) := q
      (first | lia | omega)
    · have l := ltn p hp
      have q' : @Eq Nat p.1 (S + 4) ∨ @Eq Nat p.1 (S + 3) ∨ @Eq Nat p.1 S ∨ @Eq Nat p.1 (S + 1) := q
      (first | lia | omega)
end
theorem four_of {wl : List (Addr × Obj)} {a b c d : Addr} (h : wl.map (·.1) = [a, b, c, d]) : ∃ o1 o2 o3 o4, wl = [(a, o1), (b, o2), (c, o3), (d, o4)] := by
  rcases wl with _ | ⟨⟨a', o1⟩, _ | ⟨⟨b', o2⟩, _ | ⟨⟨c', o3⟩, _ | ⟨⟨d', o4⟩, r⟩⟩⟩⟩
  · cases h
  · cases h
  · cases h
  · cases h
  · simp only [List.map_cons, List.cons.injEq, List.map_eq_nil_iff] at h
    obtain ⟨rfl, rfl, rfl, rfl, rfl⟩ := h
    exact ⟨o1, o2, o3, o4, rfl⟩
section
variable {prog : Program} {w : World} {A : Around} {s s₁ : Shared} {env : Env} {h₀ : Heap} {m : PySem.Str → Option Value} {news : List (Addr × Obj)} {Qf : Flow → Shared → Prop} {z TI TO i1 i2 l1 l2 : Addr} {xs ys : List Value}
theorem zip_turns {cenv : Env} {a b : PySem.Str} {pa pb tp : Pos} {kk : Nat} (hh : A.handled = none) (ap : ZipApart z TI TO i1 i2 l1 l2) (ha : cenv.kindOf a = some .local) (hb : cenv.kindOf b = some .local) (hp : (cenv.scope.kind == .class || (cenv.scope.kind == .module && cenv.locals != cenv.globals)) = false) :
    Turns2 prog w A (.Tuple [.Name a pa, .Name b pb] kk tp) cenv z [z, TI, TO, i1, i2, l1, l2] [z, TO, i1, i2] (min xs.length ys.length) (fun i m m' => ∃ x y, (xs[i]? = some x ∧ ys[i]? = some y) ∧ m' = fun z => if z = b then some y else if z = a then some x else m z) (ZSt z TI TO i1 i2 l1 l2 xs ys) := by
  have U := (PySem.WalksT.zip2 (prog := prog) (w := w) hh z TI TO i1 i2 l1 l2 ap xs.toArray ys.toArray).toU
  simp only [List.size_toArray] at U
  refine Turns2.pair (P := fun i x y => xs[i]? = some x ∧ ys[i]? = some y) (St := ZSt z TI TO i1 i2 l1 l2 xs ys) hh U (fun i h st b hb => ?_) ha hb hp fun i vals hv => ?_
  rotate_left
  · obtain ⟨x, y, h1, h2, e⟩ := hv
    exact ⟨x, y, e, by simpa using h1, by simpa using h2⟩
  obtain ⟨s1, s2, ⟨a', b', s3⟩, ⟨o4, s4, _⟩, ⟨o5, s5, _⟩, _⟩ := st
  simp only [List.mem_cons, List.not_mem_nil, or_false] at hb
  rcases hb with rfl | rfl | rfl | rfl
  · exact ⟨_, s1⟩
  · exact ⟨_, s3⟩
  · exact ⟨_, s4⟩
  · exact ⟨_, s5⟩
theorem fp7 {z TI TO i1 i2 l1 l2 : Addr} {W : List Addr} {R S : Addr → Prop} (hz : z ∈ W) (hT : S TI) (hTO : TO ∈ W) (h1 : i1 ∈ W) (h2 : i2 ∈ W) (q1 : R l1 ∨ S l1) (q2 : R l2 ∨ S l2) : ∀ b ∈ [z, TI, TO, i1, i2, l1, l2], b ∈ W ∨ R b ∨ S b := fun b hb => by
  simp only [List.mem_cons, List.not_mem_nil, or_false] at hb
  rcases hb with rfl | rfl | rfl | rfl | rfl | rfl | rfl
  · exact .inl hz
  · exact .inr (.inr hT)
  · exact .inl hTO
  · exact .inl h1
  · exact .inl h2
  · exact .inr q1
  · exact .inr q2
/-- what is left behind the iterable of a loop over a zip -/
inductive ForZ (prog : Program) (w : World) (A : Around) (h₀ : Heap) (env : Env) (a b : PySem.Str) (body : List Stmt) (Qf : Flow → Shared → Prop) (xv : Value) (s₁ : Shared) : Prop
  | is (z TI TO i1 i2 l1 l2 : _) (xs ys : List Value) (oz oT oO o1 o2 m news : _) (J : Nat → (PySem.Str → Option Value) → Prop) (x1_ : xv = .ref z) (x2_ : ZipApart z TI TO i1 i2 l1 l2) (x3_ : ZSt z TI TO i1 i2 l1 l2 xs ys 0 s₁.heap) (x4_ : Fr h₀ env.locals s₁.heap m) (x5_ : News h₀ env.locals s₁.heap ((z, oz) :: (TO, oO) :: (i1, o1) :: (i2, o2) :: (TI, oT) :: news)) (x6_ : (∀ p ∈ (TI, oT) :: news, p.1 ∉ [z, TO, i1, i2])) (x7_ : ((∃ o, h₀.get? l1 = some o) ∨ l1 ∈ news.map (·.1))) (x8_ : ((∃ o, h₀.get? l2 = some o) ∨ l2 ∈ news.map (·.1))) (x9_ : J 0 m) (x10_ : (∀ oz oO o1 o2 i x y m₁ h₁ tk₁, xs[i]? = some x → ys[i]? = some y → J i m₁ → Fr h₀ env.locals h₁ (fun z => if z = b then some y else if z = a then some x else m₁ z) → News h₀ env.locals h₁ ((z, oz) :: (TO, oO) :: (i1, o1) :: (i2, o2) :: (TI, oT) :: news) → wpAny (model prog w) A (execs body env) (TnStep h₀ env.locals s₁ ((z, oz) :: (TO, oO) :: (i1, o1) :: (i2, o2) :: (TI, oT) :: news) (J (i + 1)) Qf) NoE { s₁ with heap := h₁, toks := tk₁ })) (x11_ : (∀ m₁ h₁ tk₁, J (min xs.length ys.length) m₁ → Fr h₀ env.locals h₁ m₁ → News h₀ env.locals h₁ ((TI, oT) :: news) → Qf .next { s₁ with heap := h₁, toks := tk₁ })) : ForZ prog w A h₀ env a b body Qf xv s₁
theorem my_for_zip {iter : PySem.Expr} {a b : PySem.Str} {pa pb tp pos : Pos} {kk : Nat} {body : List Stmt} (F₀ : Fr h₀ env.locals s.heap m) (hh : A.handled = none) (ha : env.kindOf a = some .local) (hb : env.kindOf b = some .local) (hp : (env.scope.kind == .class || (env.scope.kind == .module && env.locals != env.globals)) = false)
    (h : wpAny (model prog w) A (eval iter env) (fun xv s₁ => ForZ prog w A h₀ env a b body Qf xv s₁) NoE s) (hs : autoParam (∀ x, foldedSetIterable iter env x = pure x) irflAuto) :
    wpAny (model prog w) A (exec (.For (.Tuple [.Name a pa, .Name b pb] kk tp) iter body [] pos) env) Qf NoE s := by
  refine wpAny_For (wpAny_mono h (fun xv s₁ h₁ => ?_) fun _ _ e => e) hs
  obtain ⟨z, TI, TO, i1, i2, l1, l2, xs, ys, oz, oT, oO, o1, o2, m, news, J, rfl, ap, st, F, N, off, q1, q2, hJ, turn, done⟩ := h₁
  refine wpAny_pyIter_zip st.1 ?_
  refine for_turns (wl0 := [(z, oz), (TO, oO), (i1, o1), (i2, o2)]) (news := (TI, oT) :: news) J (zip_turns hh ap ha hb hp) st F N rfl off (fun b hb => ?_) hJ ?_ done
  · exact fp7 (W := [z, TO, i1, i2]) (R := fun b => ∃ o, h₀.get? b = some o) (S := fun b => b ∈ ((TI, oT) :: news).map (·.1)) (by simp) (by simp) (by simp) (by simp) (by simp) (q1.imp id fun q => .tail _ q) (q2.imp id fun q => .tail _ q) b hb
  · rintro wl i m₁ m₂ h₁ tk₁ hwl hi ⟨x, y, ⟨hx, hy⟩, rfl⟩ hj F₁ N₁
    obtain ⟨oz', oO', o1', o2', rfl⟩ := four_of hwl
    exact turn oz' oO' o1' o2' i x y m₁ h₁ tk₁ hx hy hj F₁ N₁
/-- a comprehension over a zip -/
theorem lc_zip {α β : Type} {elt : PySem.Expr} {ifs : List PySem.Expr} {a b : PySem.Str} {pa pb tp : Pos} {kk : Nat} {scope : Scope} {cl : List (PySem.Str × Addr)} {up : (PySem.Str → Option Value) → Value → (PySem.Str → Option Value)} {Q : Value → Shared → Prop} {oz oT oO o1 o2 : Obj}
    (as : List α) (f : α → Option β) (Ra Ra' : α → Value → Prop) (Rb : β → Value → Prop) (hh : A.handled = none) (ap : ZipApart z TI TO i1 i2 l1 l2) (st : ZSt z TI TO i1 i2 l1 l2 xs ys 0 s₁.heap) (F : Fr h₀ env.locals s₁.heap m) (N : News h₀ env.locals s₁.heap ((z, oz) :: (TO, oO) :: (i1, o1) :: (i2, o2) :: (TI, oT) :: news))
    (off : ∀ p ∈ (TI, oT) :: news, p.1 ∉ [z, TO, i1, i2]) (q1 : (∃ o, h₀.get? l1 = some o) ∨ l1 ∈ news.map (·.1)) (q2 : (∃ o, h₀.get? l2 = some o) ∨ l2 ∈ news.map (·.1)) (h1 : All2 Ra as xs) (h2 : All2 Ra' as ys) (hz : as.length ≤ 100000)
    (ha : scope.names.lookup a = some .local) (hb : scope.names.lookup b = some .local) (hab : a ≠ b) (hkind : scope.kind = .function)
    (turn : ∀ C D oL oz oO o1 o2 (i : Nat) e x y (vs : List Value) k mc h tk, as[i]? = some e → Ra e x → Ra' e y → mc a = some x → mc b = some y → Fr h₀ C h mc → News h₀ C h ((z, oz) :: (TO, oO) :: (i1, o1) :: (i2, o2) :: (D, W.listOf vs.toArray k) :: (env.locals, oL) :: (TI, oT) :: news) →
      LcOne prog w A (compEnvC scope cl C env) elt (LcYes h₀ C s₁ ((z, oz) :: (TO, oO) :: (i1, o1) :: (i2, o2) :: (D, W.listOf vs.toArray k) :: (env.locals, oL) :: (TI, oT) :: news) (f e) Rb) (LcEnd h₀ C s₁ ((z, oz) :: (TO, oO) :: (i1, o1) :: (i2, o2) :: (D, W.listOf vs.toArray k) :: (env.locals, oL) :: (TI, oT) :: news) (f e = none)) ifs { s₁ with heap := h, toks := tk })
    (fin : ∀ D h tk (vs : List Value) k, Fr h₀ env.locals h (up m (.ref D)) → News h₀ env.locals h ((D, W.listOf vs.toArray k) :: (TI, oT) :: news) → (∀ p ∈ (TI, oT) :: news, p.1 ≠ D) → All2 Rb (as.filterMap f) vs → Q (.ref D) { s₁ with heap := h, toks := tk }) :
    LcU prog w A h₀ env (.Tuple [.Name a pa, .Name b pb] kk tp) elt ifs scope cl up Q (.ref z) s₁ := by
  have hn : min xs.length ys.length = as.length := by rw [← h1.len, ← h2.len, Nat.min_self]
  refine ⟨m, (TI, oT) :: news, as.length, fun i mc => ∃ x y, (xs[i]? = some x ∧ ys[i]? = some y) ∧ mc a = some x ∧ mc b = some y, fun i vs => All2 Rb ((as.take i).filterMap f) vs, hz, .nil, fun i vs h => ?_, ?_, fun D h tk vs k F N o hJ => fin D h tk vs k F N o (by have hJ' : All2 Rb ((as.take as.length).filterMap f) vs := hJ; rw [List.take_length] at hJ'; exact hJ')⟩
  · rw [← h.len]
    exact Nat.le_trans (List.length_filterMap_le _ _) (by rw [List.length_take]; (first | lia | omega))
  · refine wpAny_pyIter_zip st.1 ⟨z, [z, TI, TO, i1, i2, l1, l2], [z, TO, i1, i2], ZSt z TI TO i1 i2 l1 l2 xs ys, [(z, oz), (TO, oO), (i1, o1), (i2, o2)], s₁.heap, s₁.toks, rfl, rfl, fun C => ?_, st, F, N, rfl, off, fun b hb => ?_, ?_⟩
    · have T := (zip_turns (prog := prog) (w := w) (cenv := compEnvC scope cl C env) (a := a) (b := b) (pa := pa) (pb := pb) (tp := tp) (kk := kk) (xs := xs) (ys := ys) hh ap (lookup_relabel_local ha) (lookup_relabel_local hb) (by simp [compEnvC, relabel, hkind])).toTurns
      rw [hn] at T
      exact { T with item := fun i s m Q hi hst hn hC hQ => T.item i s m Q hi hst hn hC fun h' m' tk x1 x2 x3 x4 => hQ h' m' tk x1 (by
        obtain ⟨m0, x, y, hxy, rfl⟩ := x2
        exact ⟨x, y, hxy, by simp [hab], by simp⟩) x3 x4 }
    · exact fp7 (W := [z, TO, i1, i2]) (R := fun b => ∃ o, h₀.get? b = some o) (S := fun b => b ∈ ((TI, oT) :: news).map (·.1)) (by simp) (by simp) (by simp) (by simp) (by simp) (q1.imp id fun q => .tail _ q) (q2.imp id fun q => .tail _ q) b hb
    · rintro C D oL wl i vs k mc h tk hi ⟨x, y, ⟨hx, hy⟩, hma, hmb⟩ hJ hwl F N
      obtain ⟨oz', oO', o1', o2', rfl⟩ := four_of hwl
      obtain ⟨e, he, hRx⟩ := h1.back hx
      obtain ⟨e', he', hRy⟩ := h2.back hy
      obtain rfl : e = e' := Option.some.inj (he.symm.trans he')
      have step : (as.take (i + 1)).filterMap f = (as.take i).filterMap f ++ (f e).toList := by
        rw [List.take_add_one, he, List.filterMap_append]
        cases hf : f e <;> simp [hf]
      refine wpAny_mono (lcOne (turn C D oL oz' oO' o1' o2' i e x y vs k mc h tk he hRx hRy hma hmb F N)) (fun ok s₃ h₃ => ?_) fun _ _ e => e
      cases ok with
      | true =>
        refine wpAny_mono h₃ (fun y s₄ h₄ => ?_) fun _ _ e => e
        obtain ⟨h', tk', m', rfl, F', N', b, hb, hRb⟩ := h₄
        refine ⟨h', tk', m', rfl, F', N', ?_⟩
        show All2 Rb ((as.take (i + 1)).filterMap f) (vs ++ [y])
        rw [step, hb]
        exact hJ.snoc hRb
      | false =>
        obtain ⟨h', tk', m', rfl, F', N', hf⟩ := h₃
        refine ⟨h', tk', m', rfl, F', N', ?_⟩
        show All2 Rb ((as.take (i + 1)).filterMap f) vs
        rw [step, hf]
        simpa using hJ
end

end
section
set_option Elab.async false
set_option maxRecDepth 100000
set_option maxHeartbeats 2000000
open PySem PySem.W PySem.Calls PySem.Builtin PyProof.Rows
/-- a rule as a pattern that takes it alone -/
noncomputable def ownP (l : List Nat) : List It := l.map fun c => if c = 42 ∨ c = 91 then .cls c else .lit c
noncomputable def Cok (l : List Nat) : Prop := ∀ c ∈ l, c ∈ Esc.okc ∨ c = 42 ∨ c = 91
theorem pat_own (l : List Nat) : pat (ownP l) = (l.map fun c => if c = 42 ∨ c = 91 then [91, c, 93] else [c]).flatten := by
  induction l with
  | nil => rfl
  | cons c r ih =>
    show It.pat _ ++ pat (ownP r) = _
    rw [ih, List.map_cons, List.flatten_cons]
    by_cases h : c = 42 ∨ c = 91
    · simp only [if_pos h]; rfl
    · simp only [if_neg h]; rfl
theorem own_len (l : List Nat) : (ownP l).length = l.length := by simp [ownP]
theorem pat_le (P : List It) : (pat P).length ≤ 3 * P.length := by
  induction P with
  | nil => simp
  | cons i r ih =>
    have : (pat (i :: r)).length = i.pat.length + (pat r).length := by simp
    rw [this, List.length_cons]
    cases i <;> simp only [It.pat, List.length_cons, List.length_nil] <;> (first | lia | omega)
theorem txt_le {i : It} (h : i.ok) : i.txt.length ≤ 4 := by
  cases i with
  | lit c =>
    have h' : c ∈ Esc.okc := h
    simp only [Esc.okc, List.mem_cons, List.not_mem_nil, or_false] at h'
    rcases h' with rfl | rfl | rfl | rfl | rfl | rfl | rfl <;> decide
  | star => decide
  | any => decide
  | cls c =>
    show (if c = 91 then [91, 92, 91, 93] else [91, c, 93]).length ≤ 4
    split <;> simp
theorem rtail_le : ∀ (P : List It) (b : Bool), (∀ i ∈ P, i.ok) → (rtail b P).length ≤ 7 * P.length
  | [], b, _ => by simp [rtail]
  | i :: r, b, h => by
    have hr : ∀ i ∈ r, i.ok := fun j hj => h j (.tail _ hj)
    have h1 := rtail_le r true hr
    have h2 := rtail_le r false hr
    have h3 := rtail_le r b hr
    have h4 := txt_le (h i (.head _))
    rw [rtail, List.length_cons]
    by_cases hs : i = .star
    · rw [if_pos hs]
      split <;> split <;> simp only [List.length_append, List.length_cons, List.length_nil] <;> (first | lia | omega)
    · rw [if_neg hs, List.length_append]; (first | lia | omega)
theorem own_ok {l : List Nat} (h : Cok l) : ∀ i ∈ ownP l, i.ok := fun i hi => by
  obtain ⟨c, hc, rfl⟩ := List.mem_map.mp hi
  by_cases hcc : c = 42 ∨ c = 91
  · rw [if_pos hcc]; exact hcc
  · rw [if_neg hcc]
    rcases h c hc with h | h | h
    · exact h
    · exact absurd (.inl h) hcc
    · exact absurd (.inr h) hcc
theorem own_star {l : List Nat} : It.star ∉ ownP l := fun h => by
  obtain ⟨c, hc, e⟩ := List.mem_map.mp h
  split at e <;> cases e
theorem nss_of : ∀ {P : List It}, It.star ∉ P → noSS P
  | [], _ => trivial
  | [i], h => by cases i <;> first | trivial | exact absurd (.head _) h
  | i :: j :: r, h => by
    have h' : noSS (j :: r) := nss_of fun q => h (.tail _ q)
    cases i <;> first | exact h' | exact absurd (.head _) h
theorem nss_star {P : List It} (hs : It.star ∉ P) : noSS (.star :: P) := by
  cases P with
  | nil => trivial
  | cons j r =>
    have h' : noSS (j :: r) := nss_of hs
    cases j <;> first | exact h' | exact absurd (.head _) hs
theorem nss_end : ∀ {P : List It}, It.star ∉ P → noSS (P ++ [.star])
  | [], _ => trivial
  | i :: r, h => by
    have h' : noSS (r ++ [.star]) := nss_end fun q => h (.tail _ q)
    cases i with
    | star => exact absurd (.head _) h
    | lit c => cases r <;> exact h'
    | any => cases r <;> exact h'
    | cls c => cases r <;> exact h'
theorem nss_wide {P : List It} (hs : It.star ∉ P) (hne : P ≠ []) : noSS ([.any, .star] ++ P ++ [.star]) := by
  cases P with
  | nil => exact absurd rfl hne
  | cons j r =>
    have h' : noSS ((j :: r) ++ [.star]) := nss_end hs
    cases j <;> first | exact h' | exact absurd (.head _) hs
theorem gp_own {l : List Nat} (h : Cok l) (hl : l.length ≤ 100) : GoodP (pat (ownP l)) (ownP l) :=
  ⟨rfl, by have := pat_le (ownP l); rw [own_len] at this; (first | lia | omega), by have := rtail_le (ownP l) false (own_ok h); rw [own_len] at this; (first | lia | omega), own_ok h, nss_of own_star⟩
theorem gp_ends {l : List Nat} (h : Cok l) (hl : l.length ≤ 100) : GoodP ([42] ++ pat (ownP l)) (.star :: ownP l) :=
  have ok : ∀ i ∈ It.star :: ownP l, i.ok := fun i hi => by
    rcases List.mem_cons.mp hi with rfl | hi
    · trivial
    · exact own_ok h i hi
  ⟨rfl, by have := pat_le (.star :: ownP l); rw [List.length_cons, own_len] at this; (first | lia | omega), by have := rtail_le (.star :: ownP l) false ok; rw [List.length_cons, own_len] at this; (first | lia | omega), ok, nss_star own_star⟩
theorem gp_wide {l : List Nat} (h : Cok l) (hl : l.length ≤ 100) (hne : l ≠ []) : GoodP ([63, 42] ++ pat (ownP l) ++ [42]) ([.any, .star] ++ ownP l ++ [.star]) :=
  have ok : ∀ i ∈ ([.any, .star] ++ ownP l ++ [.star] : List It), i.ok := fun i hi => by
    rcases List.mem_append.mp hi with hi | hi
    · rcases List.mem_append.mp hi with hi | hi
      · rcases List.mem_cons.mp hi with rfl | hi
        · trivial
        · rw [List.mem_singleton.mp hi]; trivial
      · exact own_ok h i hi
    · rw [List.mem_singleton.mp hi]; trivial
  have hlen : ([.any, .star] ++ ownP l ++ [.star] : List It).length = l.length + 3 := by simp [own_len]
  ⟨by simp [pat, List.flatMap_append, It.pat], by have := pat_le ([.any, .star] ++ ownP l ++ [.star]); rw [hlen] at this; (first | lia | omega), by have := rtail_le ([.any, .star] ++ ownP l ++ [.star]) false ok; rw [hlen] at this; (first | lia | omega), ok,
    nss_wide own_star (fun e => hne (by simpa [ownP] using e))⟩
noncomputable def wideL (r : List Nat) (names named : List (List Nat)) : List (List Nat) := if (low r).take 1 = [46] then (if (low r).drop 1 ∈ named then (kept ([.any, .star] ++ ownP (low r) ++ [.star]) names).filter (fun n => decide (n ∈ named)) else []) else []
noncomputable def endsL' (r : List Nat) (names barred : List (List Nat)) : List (List Nat) := if (low r).take 1 = [46] then (if low r ∈ barred then [] else (kept (.star :: ownP (low r)) names).filter (fun n => !decide (n ∈ barred))) else []

end
section
set_option Elab.async false
set_option maxRecDepth 100000
set_option maxHeartbeats 2000000
open PySem PySem.W PySem.Calls PySem.Builtin PyProof.Rows
section
variable {A : Around} {base g g₀ h h' : Heap} {outer : List Env} {L : Addr} {m mg mb : PySem.Str → Option Value} {env : Env} {news : List (Addr × Obj)} {w : World}
theorem dict_ne97 {o : Obj} {es : Array DictEntry} {n : Nat} {b : Addr} (T : Tab h) (e : h.get? b = some o) (hd : o.data = .dict es n) : b ≠ 97 := fun q => by
  obtain ⟨ps, t, _⟩ := T
  rw [q, t] at e
  cases e
  cases hd
theorem belowC (B : Below A base outer (hid g)) (F : Fr (hid g) L h m) (BT : Tab h) (hk : env.scope.kind ≠ .module) (hf : env.frame = some L) : Below (A.deeper env) base (env :: outer) (hid h) := by
  have st : base.StaysIn (hid h) := fun b o e => hid_get (F.keep _ _ (B.stays b o e)) fun q => by
    have := B.stays b o e
    rw [q, hid_none] at this; cases this
  have hnew : base.get? L = none := by
    cases hq : base.get? L with
    | none => rfl
    | some o => exact absurd (Nat.lt_of_lt_of_le (Heap.lt_size (B.stays L o hq)) F.above) (Nat.lt_irrefl _)
  refine ⟨Around.frames_deeper B.stack, st, .cons hk hf (hid_ns BT F.ns) hnew (B.frames.of_keeps fun b o e hn => ⟨o, ?_, rfl⟩)⟩
  exact hid_get (F.keep b o e) fun q => by rw [q, hid_none] at e; cases e
theorem dictsC (D : KtsDicts (fsOf outer) (hid g)) (F : Fr (hid g) L h m) (BT : Tab h) (hf : env.frame = some L) : KtsDicts (fsOf (env :: outer)) (hid h) := fun b hb => by
  obtain ⟨e0, he, hfb⟩ := List.mem_filterMap.mp hb
  rcases List.mem_cons.mp he with rfl | he
  · rw [hf] at hfb; cases hfb
    obtain ⟨o, es, n, ho, hd, _⟩ := F.ns
    exact ⟨o, es, n, hid_get ho (dict_ne97 BT ho hd), hd⟩
  · obtain ⟨o, es, n, ho, hd⟩ := D b (List.mem_filterMap.mpr ⟨e0, he, hfb⟩)
    exact ⟨o, es, n, hid_get (F.keep _ _ ho) (fun q => by rw [q, hid_none] at ho; cases ho), hd⟩
theorem fsC (hf : env.frame = some L) : fsOf (env :: outer) = L :: fsOf outer := by simp [fsOf, hf]
/-- a caller behind a callee that has caught -/
theorem afterS (F : Fr (hid g) L h m) (N : News (hid g) L h news) (D : KtsDicts (fsOf outer) (hid g)) (R : SameS (L :: fsOf outer) h h') :
    ∃ g', KtsTurn (fsOf outer) (hid g) g' ∧ Fr g' L h' m ∧ News g' L h' news := by
  have hL : (hid g).get? L = none := kts_self F
  have hLf : L ∉ fsOf outer := fun q => by obtain ⟨o, _, _, ho, _⟩ := D L q; rw [hL] at ho; cases ho
  have T := kts_turn_at (fs := fsOf outer) (g := hid g) (h := h') (fun b hb => by obtain ⟨o, _, _, ho, _⟩ := D b hb; exact ⟨o, ho⟩)
    (fun b o e hb => R.other _ _ (F.keep _ _ e) fun q => by
      rcases List.mem_cons.mp q with rfl | q
      · rw [hL] at e; cases e
      · exact hb q)
    (fun b o e hb => R.frame _ _ (F.keep _ _ e) (.tail _ hb))
  refine ⟨_, T.1, ⟨?_, T.2, ?_⟩, fun p hp => ⟨?_, (N p hp).2.1, T.1.none_ _ (N p hp).2.2⟩⟩
  · obtain ⟨o, es, n, ho, hd, r⟩ := F.ns
    obtain ⟨sl, hs⟩ := R.frame _ _ ho (.head _)
    exact ⟨_, es, n, hs, hd, r⟩
  · rw [T.1.size]; exact F.above
  · refine R.other _ _ (N p hp).1 fun q => ?_
    rcases List.mem_cons.mp q with q | q
    · exact (N p hp).2.1 q
    · obtain ⟨o, _, _, ho, _⟩ := D _ q
      rw [(N p hp).2.2] at ho; cases ho
/-- what a caller's caller sees -/
theorem sameOf (T : KtsTurn (fsOf outer) (hid g) g₀) (F : Fr g₀ L h m) : SameS (97 :: fsOf outer) (hid g) h where
  other := fun b o e hb => F.keep _ _ (T.other _ _ e fun q => hb (.tail _ q))
  frame := fun b o e hb => by
    rcases List.mem_cons.mp hb with rfl | hb
    · rw [hid_none] at e; cases e
    · obtain ⟨sl, hs⟩ := T.frame _ _ e hb
      exact ⟨sl, F.keep _ _ hs⟩
theorem base_up (B : Below A base outer (hid g)) (T : KtsTurn (fsOf outer) (hid g) g₀) : base.StaysIn g₀ := fun b o e => T.other _ _ (B.stays b o e) fun q => by
  obtain ⟨env, he, hf⟩ := List.mem_filterMap.mp q
  have := (B.frames.mem (List.mem_filterMap.mpr ⟨env, he, hf⟩)).1
  rw [this] at e; cases e
theorem wdS {p : Program} {loose : List PySem.Str} {mean : ExcName → Option Value} (B : Below A base outer (hid g)) (T : KtsTurn (fsOf outer) (hid g) g₀) (F : Fr g₀ L h m) (XB : (Mine.hd.heap_1 w.params).In base) (TB : Top p loose mean mg mb base) {ps : Array Value} (h97 : h.get? 97 = some (tabObj ps)) (ok : Okps ps) : Wd w mg mb h :=
  have st : base.StaysIn h := fun b o e => F.keep _ _ (base_up B T b o e)
  ⟨XB.keeps st, ⟨p, loose, mean, TB.keeps st⟩, ⟨ps, h97, ok⟩⟩
end
theorem newsAdd' {g₀ : Heap} {h' : Heap} {L r : Addr} {o : Obj} {news : List (Addr × Obj)} (N : News g₀ L h' news) (hr : h'.get? r = some o) (hL : r ≠ L) (hg : g₀.get? r = none) : News g₀ L h' ((r, o) :: news) := fun p hp => by
  rcases List.mem_cons.mp hp with rfl | hp
  · exact ⟨hr, hL, hg⟩
  · exact N p hp
/-- the two rows of hosts -/
theorem diff_one {hs : List (List Nat)} {d u : List Nat → Bool} {S W E : List (List Nat)} (H1 : ∀ h ∈ hs, d h = decide (low h ∈ S ++ W)) (H2 : ∀ h ∈ hs, u h = decide (low h ∈ S ++ E)) :
    (hs.filter d).filter (fun a => !decide (a ∈ hs.filter u)) = hs.filter (fun h => decide (low h ∈ W) && !decide (low h ∈ S ++ E)) := by
  rw [List.filter_filter]
  refine List.filter_congr fun h hh => ?_
  have e : decide (h ∈ hs.filter u) = decide (low h ∈ S ++ E) := by
    rw [← H2 h hh]
    cases hu : u h
    · exact decide_eq_false fun q => by rw [(List.mem_filter.mp q).2] at hu; cases hu
    · exact decide_eq_true (List.mem_filter.mpr ⟨hh, hu⟩)
  rw [e, H1 h hh]
  by_cases a : low h ∈ S <;> by_cases b : low h ∈ W <;> by_cases c : low h ∈ E <;> simp [a, b, c]

end
theorem walk_reset_F14 {M : Model} {A : Around} {E : Value → Shared → Prop} {s : Shared} {Q : Bool → Shared → Prop} (h : Q true s) : wpAny M A (truthy (.bool true)) Q E s := by first | (walk1; exact h) | exact wpAny_truthy_bool h
section
set_option maxRecDepth 100000
set_option maxHeartbeats 8000000
set_option linter.unusedVariables false
set_option linter.unusedSimpArgs false
open PySem PySem.W PySem.Calls PyProof.Rows
theorem ndC {L : Nat} (l : 97 < L) : [L + 1 + 1 + 1 + 1 + 1 + 1, L + 1 + 1 + 1 + 1 + 1, L + 1 + 1 + 1 + 1, L + 1 + 1 + 1, L + 1 + 1, L + 1, 97].Nodup := by
  have up : ∀ {a : Nat} {l : List Nat}, (∀ q ∈ l, q < a) → l.Nodup → (a :: l).Nodup ∧ ∀ q ∈ a :: l, q < a + 1 := fun h nd => ⟨List.nodup_cons.mpr ⟨fun q => Nat.lt_irrefl _ (h _ q), nd⟩, fun q hq => (List.mem_cons.mp hq).elim (fun e => e ▸ Nat.lt_succ_self _) fun m => Nat.lt_succ_of_lt (h q m)⟩
  have t0 : (∀ q ∈ [97], q < L + 1) ∧ [97].Nodup := ⟨fun q hq => (List.mem_singleton.mp hq) ▸ Nat.lt_succ_of_lt l, by decide⟩
  have t1 := up t0.1 t0.2
  have t2 := up t1.2 t1.1
  have t3 := up t2.2 t2.1
  have t4 := up t3.2 t3.1
  have t5 := up t4.2 t4.1
  exact (up t5.2 t5.1).1
/-- an address that differs from all of the ledger stands ahead of them -/
theorem ndNew {r : Addr} {N : List (Addr × Obj)} (h : ∀ p ∈ N, p.1 ≠ r) (nd : (N.map (·.1)).Nodup) : ((r :: N.map (·.1)) : List Addr).Nodup :=
  List.nodup_cons.mpr ⟨fun q => by obtain ⟨p, hp, e⟩ := List.mem_map.mp q; exact h p hp e, nd⟩
theorem ndCons {a b : Addr} {l : List Addr} {P : Prop} (h : b < a ∧ P) (nd : (b :: l).Nodup) (k : b < a ∧ P → ∀ q ∈ b :: l, q < a) : (a :: b :: l).Nodup :=
  List.nodup_cons.mpr ⟨fun q => Nat.lt_irrefl _ (k h a q), nd⟩
/-- what stands behind the choice of wide and ends -/
inductive RtX (g : Heap) (L : Addr) (m : Str → Option Value) (K : Array Value → List (Addr × Obj)) (KA : List Addr) (W E : List (List Nat)) (h' : Heap) : Prop
  | is (el wl : _) (ev wv : List Value) (ke kw o5 o6 ps : _) (x1_ : Okps ps) (x2_ : Fr (hid g) L h' m) (x3_ : News (hid g) L h' ((el, PySem.W.listOf ev.toArray ke) :: (wl, PySem.W.listOf wv.toArray kw) :: (L + 1 + 1 + 1 + 1 + 1 + 1, o6) :: (L + 1 + 1 + 1 + 1 + 1, o5) :: K ps)) (x4_ : (el :: wl :: (L + 1 + 1 + 1 + 1 + 1 + 1) :: (L + 1 + 1 + 1 + 1 + 1) :: KA : List Addr).Nodup) (x5_ : o5.data = .cell (some (.ref wl))) (x6_ : o6.data = .cell (some (.ref el))) (x7_ : All2 StrV W wv) (x8_ : All2 StrV E ev) : RtX g L m K KA W E h'
theorem ndSwap {a b d : Addr} {l : List Addr} (nd : (a :: b :: l).Nodup) (h : ∀ q ∈ a :: b :: l, q ≠ d) : (a :: d :: l).Nodup := by
  obtain ⟨h1, h2⟩ := List.nodup_cons.mp nd
  obtain ⟨h3, h4⟩ := List.nodup_cons.mp h2
  refine List.nodup_cons.mpr ⟨fun q => ?_, List.nodup_cons.mpr ⟨fun q => h d (.tail _ (.tail _ q)) rfl, h4⟩⟩
  rcases List.mem_cons.mp q with q | q
  · exact h a (.head _) q
  · exact h1 (.tail _ q)
theorem ndHead {a b d : Addr} {l : List Addr} (nd : (a :: b :: l).Nodup) (h : ∀ q ∈ a :: b :: l, q ≠ d) : (d :: b :: l).Nodup :=
  List.nodup_cons.mpr ⟨fun q => h d (.tail _ q) rfl, (List.nodup_cons.mp nd).2⟩
theorem wideL_len (r : List Nat) (a b : List (List Nat)) : (wideL r a b).length ≤ a.length := by
  unfold wideL
  split
  · split
    · exact Nat.le_trans (List.length_filter_le _ _) (kept_len _ _)
    · exact Nat.zero_le _
  · exact Nat.zero_le _
theorem endsL_len (r : List Nat) (a b : List (List Nat)) : (endsL' r a b).length ≤ a.length := by
  unfold endsL'
  split
  · split
    · exact Nat.zero_le _
    · exact Nat.le_trans (List.length_filter_le _ _) (kept_len _ _)
  · exact Nat.zero_le _
theorem newsSwap {g h : Heap} {L : Addr} {p q : Addr × Obj} {l : List (Addr × Obj)} (N : News g L h (p :: q :: l)) : News g L h (q :: p :: l) := fun x hx => N x (by
  rcases List.mem_cons.mp hx with h | h
  · exact h ▸ .tail _ (.head _)
  · rcases List.mem_cons.mp h with h | h
    · exact h ▸ .head _
    · exact .tail _ (.tail _ h))
theorem newsSub2 {g h : Heap} {L : Addr} {p q : Addr × Obj} {l : List (Addr × Obj)} (N : News g L h (p :: q :: l)) : News g L h (p :: l) := fun x hx => N x (by
  rcases List.mem_cons.mp hx with h | h
  · exact h ▸ .head _
  · exact .tail _ (.tail _ h))
theorem all2_map {α β γ : Type} {R : β → γ → Prop} {f : α → β} : ∀ {as : List α} {vs : List γ}, All2 R (as.map f) vs → All2 (fun a v => R (f a) v) as vs
  | [], _, h => by cases h; exact .nil
  | a :: as, _, h => by
    cases h with
    | cons h1 h2 => exact .cons h1 (all2_map h2)
theorem nsNe {g h : Heap} {L a : Addr} {m : Str → Option Value} (F : Fr g L h m) (e : h.get? a = none) : a ≠ L := fun q => by
  obtain ⟨o, _, _, ho, _⟩ := F.ns
  rw [← q, e] at ho
  cases ho
theorem newsTail {g h : Heap} {L : Addr} {p : Addr × Obj} {l : List (Addr × Obj)} (N : News g L h (p :: l)) : News g L h l := fun q hq => N q (.tail _ hq)
inductive Cells6 (v1 v2 v3 v4 v5 v6 : Option Value) (a1 a2 a3 a4 a5 a6 : Addr) : List (Addr × Obj) → Prop
  | is (o1 o2 o3 o4 o5 o6 : Obj) (x1_ : o1.data = .cell v1) (x2_ : o2.data = .cell v2) (x3_ : o3.data = .cell v3) (x4_ : o4.data = .cell v4) (x5_ : o5.data = .cell v5) (x6_ : o6.data = .cell v6) : Cells6 v1 v2 v3 v4 v5 v6 a1 a2 a3 a4 a5 a6 [(a1, o1), (a2, o2), (a3, o3), (a4, o4), (a5, o5), (a6, o6)]
theorem uncell {cm : Str → Option Value} {n : Str} {c : Addr} {cs : List (Str × Addr)} {cells : List (Addr × Obj)} (x : CellsAre cm ((n, c) :: cs) cells) : ∃ o t, cells = (c, o) :: t ∧ o.data = .cell (cm n) ∧ CellsAre cm cs t := by
  cases x with | cons h r => exact ⟨_, _, rfl, h, r⟩
theorem cells6 {cm : Str → Option Value} {n1 n2 n3 n4 n5 n6 : Str} {a1 a2 a3 a4 a5 a6 : Addr} {cells : List (Addr × Obj)} (x : CellsAre cm [(n1, a1), (n2, a2), (n3, a3), (n4, a4), (n5, a5), (n6, a6)] cells) : Cells6 (cm n1) (cm n2) (cm n3) (cm n4) (cm n5) (cm n6) a1 a2 a3 a4 a5 a6 cells := by
  obtain ⟨c1, t1, rfl, d1, x⟩ := uncell x
  obtain ⟨c2, t2, rfl, d2, x⟩ := uncell x
  obtain ⟨c3, t3, rfl, d3, x⟩ := uncell x
  obtain ⟨c4, t4, rfl, d4, x⟩ := uncell x
  obtain ⟨c5, t5, rfl, d5, x⟩ := uncell x
  obtain ⟨c6, rfl, d6⟩ := x.one
  exact ⟨_, _, _, _, _, _, d1, d2, d3, d4, d5, d6⟩
section
variable {prog : Program} {w : World} {A : Around} {E : Value → Shared → Prop} {s : Shared} {Q : Value → Shared → Prop} {mg mb : Str → Option Value} {l k : List Nat} {t u : Tok}
local macro_rules | `(tactic| walk_at "my steps") => stepsOf ([ap ``exec [apH ``Stmt.If 4, holeT], blT ``PySem.Value.type "zip", refT 116, ap ``compareOp [Lean.mkCIdent ``CmpOp.Eq, apH ``PySem.Value.ref 1, apH ``PySem.Value.ref 1]] ++ stops2)
set_option hygiene false in
local macro_rules | `(tactic| k_mem) => `(tactic| first | exact mKn _ | exact mK4 _ | exact mK3 _ | exact mK2 _ | exact mK1 _ | exact mK7 _ | exact mKs _ | fail)
set_option hygiene false in
local macro_rules | `(tactic| walk_at "up") => `(tactic| first | exact hUpK _ | fail)
theorem c_right {outer : List Env} {base : Heap} {p : Program} {loose : List Str} {mean0 : ExcName → Option Value} {r : List Nat} {Hs Bs Ns : Addr} {hs bs ns : List (List Nat)} {hv bv nv : List Value}
    (B : Below A base outer (hid s.heap)) (D : KtsDicts (fsOf outer) (hid s.heap)) (XB : (Mine.hd.heap_1 w.params).In base) (TB : Top p loose mean0 mg mb base)
    (W0 : Wd w mg mb s.heap) (hd : A.depth + 4 < recursionLimit) (hh : A.handled = none) (hun : A.units + 10 < cLine)
    (hH : s.heap.IsList Hs hv.toArray) (hB : s.heap.IsList Bs bv.toArray) (hN : s.heap.IsList Ns nv.toArray) (hhv : All2 StrV hs hv) (hbv : All2 StrV bs bv) (hnv : All2 StrV ns nv)
    (hz : hs.length ≤ 100) (hkz : ∀ n ∈ hs, n.length ≤ 100) (hasc : ∀ n ∈ hs, Asc n) (hrl : r.length ≤ 100) (hra : Asc r) (hrc : Cok (low r)) (hsort : hs.Pairwise (· < ·))
    (H1 : ∀ h ∈ hs, dmatch h r = decide (low h ∈ kept (ownP (low r)) (hs.map low) ++ wideL r (hs.map low) ns))
    (H2 : ∀ h ∈ hs, umatch h r = decide (low h ∈ kept (ownP (low r)) (hs.map low) ++ endsL' r (hs.map low) bs))
    (hQ : ∀ h' tk', SameS (97 :: fsOf outer) (hid s.heap) h' → Wd w mg mb h' → Q (.bool true) { s with heap := h', toks := tk' }) :
    wpAny (model prog w) A (call (.ref 169) [.str (mk r) t, .ref Hs, .ref Bs, .ref Ns]) Q E s := by
  obtain ⟨ah, adp, afr, agd, aun⟩ := A
  dsimp only at hh hd hun
  subst hh
  obtain ⟨X, ⟨_, _, mean, T⟩, BT⟩ := id W0
  have hd' : adp < recursionLimit := by (first | lia | omega)
  have up : ∀ {l : Addr} {vs : List Value}, s.heap.IsList l vs.toArray → (hid s.heap).IsList l vs.toArray := fun ⟨o, h1, h2, h3⟩ => ⟨o, hid_cls BT h1 (.inl (by rw [h2]; nofun)), h2, h3⟩
  have hH' := up hH
  have hB' := up hB
  have hN' := up hN
  k_dflt (refine' enter7C (binds := [(Str.ofString "rule", .str (mk r) t), (Str.ofString "hosts", .ref Hs), (Str.ofString "barred", .ref Bs), (Str.ofString "named", .ref Ns)]) X T BT ?k6 ?k7 hd' ?k9 ?kB ?kD ?c2 ?c3 ?c4 ?_; (case k6 => k_is); (case k7 => k_is); (case k9 => exact BindsTo.of_eq rfl); (case kB => exact kindsX rfl); (case kD => decide +kernel); (case c2 => exact rfl); (case c3 => exact rfl); (case c4 => exact rfl); k_whole; intro L h₁ tk cells ps X7 T7 okp l97 F N Y)
  obtain ⟨c6, c5, c4, c3, c2, c1, d1, d2, d3, d4, d5, d6⟩ := cells6 Y
  clear Y
  have e1 : c1.data = .cell (some (.str (mk r) t)) := d6
  have e2 : c2.data = .cell (some (.ref Bs)) := d5
  have e3 : c3.data = .cell (some (.ref Ns)) := d4
  have e4 : c4.data = .cell none := d3
  have e5 : c5.data = .cell none := d2
  have e6 : c6.data = .cell none := d1
  clear d1 d2 d3 d4 d5 d6
  (try simp only [List.cons_append, List.nil_append] at N); (try dsimp only); (try k_fold)
  have hC := ndC l97
  clear X T BT
  obtain ⟨_, T7⟩ := T7
  walk_at "my steps"
  (rename Fr _ _ _ _ => Fz); (rename News _ _ _ _ => Nz)
  rename_i tl kl hl
  walk_at "my lcA"
  refine lc_any hs (fun h => some (low h)) StrV StrV (iter_list (by rfl) (hH'.at fun o e => Fz.keep _ o e) Fz Nz (.inl (by obtain ⟨o, e, _⟩ := hH'; exact ⟨o, e⟩))) hhv.len (fun i v h => hhv.back h) (by (first | lia | omega)) (by rfl) (by rfl) ?_ ?_
  · intro C D2 oL I2 io i h v ys k mc h2 tk2 hn1 hv1 hmc F N
    show wpAny _ _ (eval _ _) _ _ _
    obtain ⟨tn, rfl⟩ := hv1
    have hmem : h ∈ hs := List.mem_of_getElem? hn1
    have hnl := hkz h hmem
    have hna := hasc h hmem
    walk_at "my steps"
    (rename Fr _ _ _ _ => Fz); (rename News _ _ _ _ => Nz)
    exact endY Fz Nz rfl ⟨_, rfl⟩
  · intro nl h2 tk2 nys k F N oD hA
    rw [fm_map] at hA
    try clear Fz Nz
    replace F : Fr (hid s.heap) L h2 _ := F
    replace N : News (hid s.heap) L h2 _ := N
    have hnz : nys.length ≤ 100 := by rw [← hA.len, List.length_map]; exact hz
    have hnz1 : (hs.map low).length ≤ 1000 := by rw [List.length_map]; (first | lia | omega)
    have hnz2 : ∀ n ∈ hs.map low, n.length ≤ 1000 := fun n hn => by
      obtain ⟨h, hh, rfl⟩ := List.mem_map.mp hn
      have := hkz h hh
      rw [List.length_map]; (first | lia | omega)
    have hlr : (low r).length ≤ 100 := by simpa using hrl
    have hlra : Asc (low r) := asc_low hra
    walk_at "my steps"
    walk_at "my lc"
    rename_i tj kj
    refine lc_any (low r) (fun c => some (if c = 42 ∨ c = 91 then [91, c, 93] else [c])) (fun c v => StrV [c] v) StrV (iter_str (by rfl) F N) rfl (fun i v h => h) (by (first | lia | omega)) (by rfl) (by rfl) ?_ ?_
    · intro C D2 oL I2 io i c v ys k mc h2 tk2 hn1 hv1 hmc F N
      show wpAny _ _ (eval _ _) _ _ _
      obtain ⟨tn, rfl⟩ := hv1
      by_cases hc : c = 42 ∨ c = 91
      · have hcd : decide (c ∈ [42, 91]) = true := by simpa using hc
        walk_at "my steps"
        (rename Fr _ _ _ _ => Fz); (rename News _ _ _ _ => Nz)
        exact endY Fz Nz (by rw [if_pos hc]; rfl) ⟨_, rfl⟩
      · have hcd : decide (c ∈ [42, 91]) = false := by simpa using hc
        walk_at "my steps"
        (rename Fr _ _ _ _ => Fz); (rename News _ _ _ _ => Nz)
        exact endY Fz Nz (by rw [if_neg hc]) ⟨_, rfl⟩
    · intro ol h3 tk3 oys k3 F N oD3 hO
      rw [fm_map] at hO
      walk_at "my steps"
      refine r_join (Li.led N (by k_mem)) hO (by rw [← pat_own]; have := pat_le (ownP (low r)); rw [own_len] at this; (first | lia | omega)) ?_
      intro t' k'
      rw [← pat_own]
      replace F : Fr (hid s.heap) L h3 _ := F
      replace N : News (hid s.heap) L h3 _ := newsTail N
      have hgO := gp_own hrc hlr
      walk_at "my steps"
      (rename Fr _ _ _ _ => Fz); (rename News _ _ _ _ => Nz)
      rename_i h5 r5 kv5 n5 tk5 x5 W5 hr5 hf5 hv5 hz5 ps5 ok5 ne5
      clear x5 W5 hr5 hf5
      have nr7 : r5 ≠ 97 := Ne.symm (ne5 (97, tabObj ps) (by k_mem))
      have nrn : r5 ≠ nl := Ne.symm (ne5 (nl, W.listOf nys.toArray k) (by k_mem))
      have hnd : [r5, nl, L + 1 + 1 + 1 + 1 + 1 + 1, L + 1 + 1 + 1 + 1 + 1, L + 1 + 1 + 1 + 1, L + 1 + 1 + 1, L + 1 + 1, L + 1, 97].Nodup := ndNew ne5 (ndNew oD hC)
      refine r_storeC Fz Nz rfl (by k_mem) e4 ?_
      intro h6 o4 F6 up6 d4
      have N6 := up6 _ (newsPut (x := [(r5, W.listOf kv5.toArray n5), (nl, W.listOf nys.toArray k), (L + 1 + 1 + 1 + 1 + 1 + 1, c6), (L + 1 + 1 + 1 + 1 + 1, c5)]) (o' := o4) hnd)
      simp only [List.cons_append, List.nil_append] at N6
      clear Fz Nz up6
      walk_at "my steps"
      (rename Fr _ _ _ _ => Fz); (rename News _ _ _ _ => Nz)
      rename_i wl h7 lt7
      have hnd7 : [wl, r5, nl, L + 1 + 1 + 1 + 1 + 1 + 1, L + 1 + 1 + 1 + 1 + 1, L + 1 + 1 + 1 + 1, L + 1 + 1 + 1, L + 1 + 1, L + 1, 97].Nodup := ndCons lt7 hnd (by intro h; simp only [List.forall_mem_cons, List.not_mem_nil, false_imp_iff, implies_true, and_true]; exact h)
      refine r_storeC Fz Nz rfl (by k_mem) e5 ?_
      intro h8 o5 F8 up8 d5
      have N8 := up8 _ (newsPut (x := [(wl, W.listOf #[] 0), (r5, W.listOf kv5.toArray n5), (nl, W.listOf nys.toArray k), (L + 1 + 1 + 1 + 1 + 1 + 1, c6)]) (o' := o5) hnd7)
      simp only [List.cons_append, List.nil_append] at N8
      clear Fz Nz up8
      walk_at "my steps"
      (rename Fr _ _ _ _ => Fz); (rename News _ _ _ _ => Nz)
      rename_i el h9 lt9
      have hnd9 : [el, wl, r5, nl, L + 1 + 1 + 1 + 1 + 1 + 1, L + 1 + 1 + 1 + 1 + 1, L + 1 + 1 + 1 + 1, L + 1 + 1 + 1, L + 1 + 1, L + 1, 97].Nodup := ndCons lt9 hnd7 (by intro h; simp only [List.forall_mem_cons, List.not_mem_nil, false_imp_iff, implies_true, and_true]; exact h)
      refine r_storeC Fz Nz rfl (by k_mem) e6 ?_
      intro h10 o6 F10 up10 d6
      have N10 := up10 _ (newsPut (x := [(el, W.listOf #[] 0), (wl, W.listOf #[] 0), (r5, W.listOf kv5.toArray n5), (nl, W.listOf nys.toArray k)]) (o' := o6) hnd9)
      simp only [List.cons_append, List.nil_append] at N10
      clear Fz Nz up10
      walk_at "my steps"
      rename Fr _ _ _ _ => F11
      obtain ⟨m10, F10, mlow, mown, mnames, mhosts⟩ : ∃ m, Fr (hid s.heap) L h10 m ∧ m (Str.ofString "low") = some (.str (mk (low r)) tl) ∧ m (Str.ofString "own") = some (.str (mk (pat (ownP (low r)))) t') ∧ m (Str.ofString "names") = some (.ref nl) ∧ m (Str.ofString "hosts") = some (.ref Hs) := ⟨_, F11, rfl, rfl, rfl, rfl⟩
      clear F11
      have hpl : (pat (ownP (low r))).length ≤ 900 := hgO.l1
      have hgE := gp_ends hrc hlr
      -- what is not touched any more stands behind K
      obtain ⟨K, KA, hUpK, mK7, mKs, mKn, mK4, mK3, mK2, mK1, hKA, hK, hKA2⟩ : ∃ (K : Array Value → List (Addr × Obj)) (KA : List Addr), (∀ ps, Up ps (K ps) K) ∧ (∀ ps, (97, tabObj ps) ∈ K ps) ∧ (∀ ps, (r5, W.listOf kv5.toArray n5) ∈ K ps) ∧ (∀ ps, (nl, W.listOf nys.toArray k) ∈ K ps) ∧ (∀ ps, (L + 1 + 1 + 1 + 1, o4) ∈ K ps) ∧ (∀ ps, (L + 1 + 1 + 1, c3) ∈ K ps) ∧ (∀ ps, (L + 1 + 1, c2) ∈ K ps) ∧ (∀ ps, (L + 1, c1) ∈ K ps) ∧ (∀ ps, (K ps).map (·.1) = KA) ∧ (∀ ps, K ps = [(r5, W.listOf kv5.toArray n5), (nl, W.listOf nys.toArray k), (L + 1 + 1 + 1 + 1, o4), (L + 1 + 1 + 1, c3), (L + 1 + 1, c2), (L + 1, c1), (97, tabObj ps)]) ∧ KA = [r5, nl, L + 1 + 1 + 1 + 1, L + 1 + 1 + 1, L + 1 + 1, L + 1, 97] :=
        ⟨fun ps => [(r5, W.listOf kv5.toArray n5), (nl, W.listOf nys.toArray k), (L + 1 + 1 + 1 + 1, o4), (L + 1 + 1 + 1, c3), (L + 1 + 1, c2), (L + 1, c1), (97, tabObj ps)], _, fun ps => by walk_at "up", fun ps => by k_mem, fun ps => by k_mem, fun ps => by k_mem, fun ps => by k_mem, fun ps => by k_mem, fun ps => by k_mem, fun ps => by k_mem, fun ps => rfl, fun ps => rfl, rfl⟩
      have hndK : (el :: wl :: (L + 1 + 1 + 1 + 1 + 1 + 1) :: (L + 1 + 1 + 1 + 1 + 1) :: KA : List Addr).Nodup := by
        rw [hKA2]
        exact ((((List.perm_append_comm (l₁ := [r5, nl]) (l₂ := [L + 1 + 1 + 1 + 1 + 1 + 1, L + 1 + 1 + 1 + 1 + 1])).append_right [L + 1 + 1 + 1 + 1, L + 1 + 1 + 1, L + 1 + 1, L + 1, 97]).cons wl).cons el).nodup_iff.mp hnd9
      have N10K : News (hid s.heap) L h10 ((el, W.listOf #[] 0) :: (wl, W.listOf #[] 0) :: (L + 1 + 1 + 1 + 1 + 1 + 1, o6) :: (L + 1 + 1 + 1 + 1 + 1, o5) :: K ps5) := newsSub N10 (by
        rw [hK]
        exact fun p hp => (((((List.perm_append_comm (l₁ := [(r5, W.listOf kv5.toArray n5), (nl, W.listOf nys.toArray k)]) (l₂ := [(L + 1 + 1 + 1 + 1 + 1 + 1, o6), (L + 1 + 1 + 1 + 1 + 1, o5)])).append_right [(L + 1 + 1 + 1 + 1, o4), (L + 1 + 1 + 1, c3), (L + 1 + 1, c2), (L + 1, c1), (97, tabObj ps5)]).cons (wl, W.listOf #[] 0)).cons (el, W.listOf #[] 0)).mem_iff).mpr hp)
      clear hK hKA2
      have R0 : RtX s.heap L m10 K KA [] [] h10 := ⟨el, wl, [], [], _, _, o5, o6, ps5, ok5, F10, N10K, hndK, d5, d6, .nil, .nil⟩
      clear F10 N10 N10K hndK hnd9 d5 d6 hnd7 hnd ok5 lt9 lt7
      refine wpAny_mono (Q := fun f s' => f = .next ∧ ∃ h' tk, s' = { s with heap := h', toks := tk } ∧ RtX s.heap L m10 K KA (wideL r (hs.map low) ns) (endsL' r (hs.map low) bs) h') ?_ (fun f s' h => ?_) (fun _ _ e => e)
      -- BEGIN IF
      · by_cases h1 : (low r).take 1 = [46]
        · have h1' : decide (List.take 1 (low r) = [46]) = true := decide_eq_true h1
          have hne : low r ≠ [] := by rintro e; rw [e] at h1; cases h1
          have hgW := gp_wide hrc hlr hne
          obtain ⟨el, wl, ev, wv, ke, kw, o5, o6, ps6, ok6, F10, N10, hnd10, d5, d6, aw, ae⟩ := R0
          walk1
          walk_at "my steps"
          (rename Fr _ _ _ _ => Fz); (rename News _ _ _ _ => Nz)
          rename_i h11 t11 k11 t12 k12
          refine wpAny_mono (Q := fun f s' => f = .next ∧ ∃ h' tk, s' = { s with heap := h', toks := tk } ∧ RtX s.heap L m10 K KA (wideL r (hs.map low) ns) [] h') ?_ (fun f s' h => ?_) (fun _ _ e => e)
          · by_cases h2 : (low r).drop 1 ∈ ns
            · have h2' : decide (List.drop (Int.toNat 1) (low r) ∈ ns) = true := decide_eq_true h2
              walk1
              walk_at "my steps"
              walk1
              walk_at "my lc"
              (rename Fr _ _ _ _ => Fy); (rename News _ _ _ _ => Ny)
              rename_i h12 r12 kv12 n12 tk12 x12 W12 hr12 hf12 hv12 hz12 ps12 ok12 ne12
              clear x12 W12 hr12 hf12
              rw [List.length_map] at hz12
              refine lc_any (kept ([.any, .star] ++ ownP (low r) ++ [.star]) (hs.map low)) (fun n => if decide (n ∈ ns) = true then some n else none) StrV StrV (iter_list (by rfl) (Li.led Ny (by k_mem)) Fy Ny (.inr (by simp))) hv12.len (fun i v h => hv12.back h) (by rw [hv12.len]; (first | lia | omega)) (by rfl) (by rfl) ?_ ?_
              · intro C D2 oL I2 io i n v ys k2 mc h2 tk2 hn1 hv1 hmc F N
                show wpAny _ _ (isTrue _ _ _) _ _ _
                obtain ⟨tn, rfl⟩ := hv1
                cases hin : decide (n ∈ ns) with
                | true =>
                  walk_at "my steps"
                  exact endY F N (if_pos rfl) ⟨_, rfl⟩
                | false =>
                  walk_at "my steps"
                  exact endC F N (if_neg (by decide))
              · intro D2 h13 tk13 wv2 k13 F N oD13 hA13
                rw [fm_filter] at hA13
                have hnd13 := ndSwap hnd10 (d := D2) (fun q hq => by
                  obtain ⟨p, hp, rfl⟩ := List.mem_map.mp (show q ∈ List.map (·.1) ((el, W.listOf ev.toArray ke) :: (wl, W.listOf wv.toArray kw) :: (L + 1 + 1 + 1 + 1 + 1 + 1, o6) :: (L + 1 + 1 + 1 + 1 + 1, o5) :: K ps12) by simp only [List.map_cons, hKA]; exact hq)
                  exact oD13 p (.tail _ hp))
                replace N := newsSwap <| newsSub (news' := (D2, W.listOf wv2.toArray k13) :: (el, W.listOf ev.toArray ke) :: (L + 1 + 1 + 1 + 1 + 1 + 1, o6) :: (L + 1 + 1 + 1 + 1 + 1, o5) :: K ps12) N (by walk_at "msub")
                replace F : Fr (hid s.heap) L h13 _ := F
                replace N : News (hid s.heap) L h13 _ := N
                have hW : All2 StrV (wideL r (hs.map low) ns) wv2 := by rw [wideL, if_pos h1, if_pos h2]; exact hA13
                refine r_storeC F N rfl (by k_mem) d5 ?_
                intro h14 o5' F14 up14 d5'
                have N14 := up14 _ (newsPut (x := [(el, W.listOf ev.toArray ke), (D2, W.listOf wv2.toArray k13), (L + 1 + 1 + 1 + 1 + 1 + 1, o6)]) (y := K ps12) (o' := o5') (by show (_ :: _ :: _ :: _ :: (K ps12).map _ : List Addr).Nodup; rw [hKA]; exact hnd13))
                simp only [List.cons_append, List.nil_append] at N14
                walk_at "my steps"
                exact ⟨el, D2, ev, wv2, _, _, o5', o6, ps12, ok12, F14, N14, hnd13, d5', d6, hW, ae⟩
            · have h2' : decide (List.drop (Int.toNat 1) (low r) ∈ ns) = false := decide_eq_false h2
              have hW : wideL r (hs.map low) ns = [] := by rw [wideL, if_pos h1, if_neg h2]
              rw [hW]
              walk1
              walk_at "my steps"
              (rename Fr _ _ _ _ => Fy); (rename News _ _ _ _ => Ny)
              exact ⟨el, wl, ev, wv, _, _, o5, o6, ps6, ok6, Fy, Ny, hnd10, d5, d6, aw, ae⟩
          · obtain ⟨rfl, h15, tk15, rfl, R1⟩ := h
            clear Fz Nz
            obtain ⟨el, wl, ev, wv, ke, kw, o5, o6, ps6, ok6, F10, N10, hnd10, d5, d6, aw, ae⟩ := R1
            walk_at "my steps"
            by_cases h3 : low r ∈ bs
            · have h3' : (!decide (low r ∈ bs)) = false := by rw [decide_eq_true h3]; rfl
              have hE : endsL' r (hs.map low) bs = [] := by rw [endsL', if_pos h1, if_pos h3]
              walk1
              walk_at "my steps"
              (rename Fr _ _ _ _ => Fy); (rename News _ _ _ _ => Ny)
              exact ⟨el, wl, ev, wv, _, _, o5, o6, ps6, ok6, Fy, Ny, hnd10, d5, d6, aw, hE ▸ ae⟩
            · have h3' : (!decide (low r ∈ bs)) = true := by rw [decide_eq_false h3]; rfl
              walk1
              walk_at "my steps"
              walk1
              walk_at "my lc"
              (rename Fr _ _ _ _ => Fy); (rename News _ _ _ _ => Ny)
              rename_i h12 r12 kv12 n12 tk12 x12 W12 hr12 hf12 hv12 hz12 ps12 ok12 ne12
              clear x12 W12 hr12 hf12
              rw [List.length_map] at hz12
              refine lc_any (kept (.star :: ownP (low r)) (hs.map low)) (fun n => if (!decide (n ∈ bs)) = true then some n else none) StrV StrV (iter_list (by rfl) (Li.led Ny (by k_mem)) Fy Ny (.inr (by simp))) hv12.len (fun i v h => hv12.back h) (by rw [hv12.len]; (first | lia | omega)) (by rfl) (by rfl) ?_ ?_
              · intro C D2 oL I2 io i n v ys k2 mc h2 tk2 hn1 hv1 hmc F N
                show wpAny _ _ (isTrue _ _ _) _ _ _
                obtain ⟨tn, rfl⟩ := hv1
                cases hin : (!decide (n ∈ bs)) with
                | true =>
                  walk_at "my steps"
                  exact endY F N (if_pos rfl) ⟨_, rfl⟩
                | false =>
                  walk_at "my steps"
                  exact endC F N (if_neg (by decide))
              · intro D2 h13 tk13 ev2 k13 F N oD13 hA13
                rw [fm_filter] at hA13
                have hnd13 := ndHead hnd10 (d := D2) (fun q hq => by
                  obtain ⟨p, hp, rfl⟩ := List.mem_map.mp (show q ∈ List.map (·.1) ((el, W.listOf ev.toArray ke) :: (wl, W.listOf wv.toArray kw) :: (L + 1 + 1 + 1 + 1 + 1 + 1, o6) :: (L + 1 + 1 + 1 + 1 + 1, o5) :: K ps12) by simp only [List.map_cons, hKA]; exact hq)
                  exact oD13 p (.tail _ hp))
                replace N := newsSub (news' := (D2, W.listOf ev2.toArray k13) :: (wl, W.listOf wv.toArray kw) :: (L + 1 + 1 + 1 + 1 + 1 + 1, o6) :: (L + 1 + 1 + 1 + 1 + 1, o5) :: K ps12) N (by walk_at "msub")
                replace F : Fr (hid s.heap) L h13 _ := F
                replace N : News (hid s.heap) L h13 _ := N
                have hE : All2 StrV (endsL' r (hs.map low) bs) ev2 := by rw [endsL', if_pos h1, if_neg h3]; exact hA13
                refine r_storeC F N rfl (by k_mem) d6 ?_
                intro h14 o6' F14 up14 d6'
                have N14 := up14 _ (newsPut (x := [(D2, W.listOf ev2.toArray k13), (wl, W.listOf wv.toArray kw)]) (y := (L + 1 + 1 + 1 + 1 + 1, o5) :: K ps12) (o' := o6') (by show (_ :: _ :: _ :: _ :: (K ps12).map _ : List Addr).Nodup; rw [hKA]; exact hnd13))
                simp only [List.cons_append, List.nil_append] at N14
                walk_at "my steps"
                exact ⟨D2, wl, ev2, wv, _, _, o5, o6', ps12, ok12, F14, N14, hnd13, d5, d6', aw, hE⟩
        · have h1' : decide (List.take 1 (low r) = [46]) = false := decide_eq_false h1
          obtain ⟨el, wl, ev, wv, ke, kw, o5, o6, ps6, ok6, F10, N10, hnd10, d5, d6, aw, ae⟩ := R0
          walk1
          walk_at "my steps"
          (rename Fr _ _ _ _ => Fz); (rename News _ _ _ _ => Nz)
          exact ⟨el, wl, ev, wv, _, _, o5, o6, ps6, ok6, Fz, Nz, hnd10, d5, d6, by rw [wideL, if_neg h1]; exact aw, by rw [endsL', if_neg h1]; exact ae⟩
      -- END IF
      · obtain ⟨rfl, h15, tk15, rfl, R1⟩ := h
        obtain ⟨el, wl, ev, wv, ke, kw, o5, o6, ps6, ok6, F10, N10, hnd10, d5, d6, aw, ae⟩ := R1
        have e4' : o4.data = .cell (some (.ref r5)) := d4
        have hnk : kv5.length ≤ 100 := by rw [List.length_map] at hz5; (first | lia | omega)
        have hwz : wv.length ≤ 100 := by rw [← aw.len]; exact Nat.le_trans (wideL_len _ _ _) (by rw [List.length_map]; exact hz)
        have hez : ev.length ≤ 100 := by rw [← ae.len]; exact Nat.le_trans (endsL_len _ _ _) (by rw [List.length_map]; exact hz)
        walk_at "my steps"
        k_dflt (refine' my_for_zip ?zF ?zh ?za ?zb ?zp ?_; (case zF => assumption); (case zh => exact rfl); (case za => exact rfl); (case zb => exact rfl); (case zp => exact rfl))
        walk_at "my steps"
        refine r_zip (by assumption) (by assumption) (hH'.at fun o e => Fr.keep (by assumption) _ o e) (Li.led (by assumption) (by k_mem)) ?_
        intro z TI TO i1 i2 oz oT oO oi1 oi2 h16 ap st F16 N16 off
        have hnz2 : (min hv.length nys.length) = hs.length := by rw [← hhv.len, ← hA.len, List.length_map, Nat.min_self]
        refine ⟨z, TI, TO, i1, i2, Hs, nl, hv, nys, oz, oT, oO, oi1, oi2, _, _, fun i m => m (Str.ofString "hosts") = some (.ref Hs) ∧ m (Str.ofString "names") = some (.ref nl), rfl, ap, st, F16, N16, off, .inl (by obtain ⟨o, e, _⟩ := hH'; exact ⟨o, e⟩), .inr (List.mem_map.mpr ⟨(nl, W.listOf nys.toArray k), by k_mem, rfl⟩), ⟨mhosts, mnames⟩, ?_, ?_⟩
        · intro oz oO o1 o2 i x y m₁ h₁ tk₁ hx hy ⟨hm1, hm2⟩ F N
          obtain ⟨h, hh1, tx, rfl⟩ := hhv.back hx
          obtain ⟨n, hn1, ty, rfl⟩ := hA.back hy
          have hn2 : n = low h := by
            rw [List.getElem?_map, hh1] at hn1; exact (Option.some.inj hn1).symm
          subst hn2
          have hmem : h ∈ hs := List.mem_of_getElem? hh1
          have hl100 := hkz h hmem
          have ha128 := hasc h hmem
          have hb1 : (dmatch h r != decide (low h ∈ kept (ownP (low r)) (hs.map low) ++ wideL r (hs.map low) ns)) = false := by rw [H1 h hmem]; simp
          have hb2 : (umatch h r != decide (low h ∈ kept (ownP (low r)) (hs.map low) ++ endsL' r (hs.map low) bs)) = false := by rw [H2 h hmem]; simp
          have a1 := hv5.app aw
          have a2 := hv5.app ae
          walk_at "my steps"
          walk1
          walk_at "my steps"
          walk1
          walk_at "my steps"
          (rename Fr _ _ _ _ => Fz); (rename News _ _ _ _ => Nz)
          exact endT Fz (newsTail (newsTail Nz)) ⟨hm1, hm2⟩
        · intro m₁ h₁ tk₁ ⟨hm1, hm2⟩ F N
          replace F : Fr (hid s.heap) L h₁ m₁ := F
          replace N : News (hid s.heap) L h₁ _ := newsTail N
          walk_at "my steps"
          walk_at "my lcA"
          refine lc_any hs (fun h => if dmatch h r = true then some h else none) StrV StrV (iter_list (by rfl) (hH'.at fun o e => F.keep _ o e) F N (.inl (by obtain ⟨o, e, _⟩ := hH'; exact ⟨o, e⟩))) hhv.len (fun i v h => hhv.back h) (by (first | lia | omega)) (by rfl) (by rfl) ?_ ?_
          · intro C D2 oL I2 io i h v ys k2 mc h2 tk2 hn1 hv1 hmc F N
            show wpAny _ _ (isTrue _ _ _) _ _ _
            obtain ⟨tn, rfl⟩ := hv1
            have hmem : h ∈ hs := List.mem_of_getElem? hn1
            have hl100 := hkz h hmem
            have ha128 := hasc h hmem
            cases hdm : dmatch h r with
            | true =>
              walk_at "my steps"
              (rename Fr _ _ _ _ => Fz); (rename News _ _ _ _ => Nz)
              exact endY Fz Nz (if_pos rfl) ⟨_, rfl⟩
            | false =>
              walk_at "my steps"
              (rename Fr _ _ _ _ => Fz); (rename News _ _ _ _ => Nz)
              exact endC Fz Nz (if_neg (by decide))
          · intro ol1 h2 tk2 ov1 k1 F N oD1 hO1
            rw [fm_filter] at hO1
            replace F : Fr (hid s.heap) L h2 _ := F
            replace N : News (hid s.heap) L h2 _ := N
            walk_at "my steps"
            walk_at "my lcA"
            refine lc_any hs (fun h => if umatch h r = true then some h else none) StrV StrV (iter_list (by rfl) (hH'.at fun o e => F.keep _ o e) F N (.inl (by obtain ⟨o, e, _⟩ := hH'; exact ⟨o, e⟩))) hhv.len (fun i v h => hhv.back h) (by (first | lia | omega)) (by rfl) (by rfl) ?_ ?_
            · intro C D2 oL I2 io i h v ys k2 mc h2 tk2 hn1 hv1 hmc F N
              show wpAny _ _ (isTrue _ _ _) _ _ _
              obtain ⟨tn, rfl⟩ := hv1
              have hmem : h ∈ hs := List.mem_of_getElem? hn1
              have hl100 := hkz h hmem
              have ha128 := hasc h hmem
              cases hdm : umatch h r with
              | true =>
                walk_at "my steps"
                (rename Fr _ _ _ _ => Fz); (rename News _ _ _ _ => Nz)
                exact endY Fz Nz (if_pos rfl) ⟨_, rfl⟩
              | false =>
                walk_at "my steps"
                (rename Fr _ _ _ _ => Fz); (rename News _ _ _ _ => Nz)
                exact endC Fz Nz (if_neg (by decide))
            · intro ol2 h3 tk3 ov2 k2 F N oD2 hO2
              rw [fm_filter] at hO2
              replace F : Fr (hid s.heap) L h3 _ := F
              replace N : News (hid s.heap) L h3 _ := N
              have hz1 : ov1.length ≤ 100 := by rw [← hO1.len]; exact Nat.le_trans (List.length_filter_le _ _) hz
              have hz2 : ov2.length ≤ 100 := by rw [← hO2.len]; exact Nat.le_trans (List.length_filter_le _ _) hz
              walk_at "my steps"
              walk_at "my lcA"
              have a1 := hv5.app aw
              have a2 := hv5.app ae
              have hA' : All2 (fun h v => StrV (low h) v) hs nys := all2_map hA
              rename_i kl1 kc1 hk1 ltk1 kl2 kc2 hk2 ltk2 kt hk3 ltk3 hk4
              refine r_zip (by assumption) (by assumption) (hH'.at fun o e => Fr.keep (by assumption) _ o e) (Li.led (by assumption) (by k_mem)) ?_
              intro z TI TO i1 i2 oz oT oO oi1 oi2 h16 ap st F16 N16 off
              refine lc_zip hs (fun h => if (decide (low h ∈ wideL r (hs.map low) ns) && !decide (low h ∈ kept (ownP (low r)) (hs.map low) ++ endsL' r (hs.map low) bs)) = true then some h else none) StrV (fun h v => StrV (low h) v) StrV (by rfl) ap st F16 N16 off (.inl (by obtain ⟨o, e, _⟩ := hH'; exact ⟨o, e⟩)) (.inr (List.mem_map.mpr ⟨(nl, W.listOf nys.toArray k), by k_mem, rfl⟩)) hhv hA' (by (first | lia | omega)) (by rfl) (by rfl) (by decide) (by rfl) ?_ ?_
              · intro C D2 oL oz oO o1 o2 i h x y vs k2 mc h2 tk2 hn1 hx hy hma hmb F N
                show wpAny _ _ (isTrue _ _ _) _ _ _
                obtain ⟨tx, rfl⟩ := hx
                obtain ⟨ty, rfl⟩ := hy
                by_cases q1 : low h ∈ wideL r (hs.map low) ns
                · have q1' : decide (low h ∈ wideL r (hs.map low) ns) = true := decide_eq_true q1
                  by_cases q2 : low h ∈ kept (ownP (low r)) (hs.map low) ++ endsL' r (hs.map low) bs
                  · have q2' : (!decide (low h ∈ kept (ownP (low r)) (hs.map low) ++ endsL' r (hs.map low) bs)) = false := by rw [decide_eq_true q2]; rfl
                    walk_at "my steps"
                    (rename Fr _ _ _ _ => Fz); (rename News _ _ _ _ => Nz)
                    exact endC Fz (newsTail Nz) (if_neg (by rw [q2', Bool.and_false]; decide))
                  · have q2' : (!decide (low h ∈ kept (ownP (low r)) (hs.map low) ++ endsL' r (hs.map low) bs)) = true := by rw [decide_eq_false q2]; rfl
                    walk_at "my steps"
                    (rename Fr _ _ _ _ => Fz); (rename News _ _ _ _ => Nz)
                    exact endY Fz (newsTail Nz) (if_pos (by rw [q1', q2']; rfl)) ⟨_, rfl⟩
                · have q1' : decide (low h ∈ wideL r (hs.map low) ns) = false := decide_eq_false q1
                  walk_at "my steps"
                  (rename Fr _ _ _ _ => Fz); (rename News _ _ _ _ => Nz)
                  exact endC Fz Nz (if_neg (by rw [q1']; simp))
              · intro wi h17 tk17 wiv k17 F N oDw hWi
                rw [fm_filter] at hWi
                replace F : Fr (hid s.heap) L h17 _ := F
                replace N := newsSub2 N
                walk_at "my steps"
                walk_at "my lcA"
                refine r_zip (by assumption) (by assumption) (hH'.at fun o e => Fr.keep (by assumption) _ o e) (Li.led (by assumption) (by k_mem)) ?_
                intro z TI TO i1 i2 oz oT oO oi1 oi2 h16 ap st F16 N16 off
                refine lc_zip hs (fun h => if (decide (low h ∈ endsL' r (hs.map low) bs) && !decide (low h ∈ kept (ownP (low r)) (hs.map low) ++ wideL r (hs.map low) ns)) = true then some h else none) StrV (fun h v => StrV (low h) v) StrV (by rfl) ap st F16 N16 off (.inl (by obtain ⟨o, e, _⟩ := hH'; exact ⟨o, e⟩)) (.inr (List.mem_map.mpr ⟨(nl, W.listOf nys.toArray k), by k_mem, rfl⟩)) hhv hA' (by (first | lia | omega)) (by rfl) (by rfl) (by decide) (by rfl) ?_ ?_
                · intro C D2 oL oz oO o1 o2 i h x y vs k2 mc h2 tk2 hn1 hx hy hma hmb F N
                  show wpAny _ _ (isTrue _ _ _) _ _ _
                  obtain ⟨tx, rfl⟩ := hx
                  obtain ⟨ty, rfl⟩ := hy
                  by_cases q1 : low h ∈ endsL' r (hs.map low) bs
                  · have q1' : decide (low h ∈ endsL' r (hs.map low) bs) = true := decide_eq_true q1
                    by_cases q2 : low h ∈ kept (ownP (low r)) (hs.map low) ++ wideL r (hs.map low) ns
                    · have q2' : (!decide (low h ∈ kept (ownP (low r)) (hs.map low) ++ wideL r (hs.map low) ns)) = false := by rw [decide_eq_true q2]; rfl
                      walk_at "my steps"
                      (rename Fr _ _ _ _ => Fz); (rename News _ _ _ _ => Nz)
                      exact endC Fz (newsTail Nz) (if_neg (by rw [q2', Bool.and_false]; decide))
                    · have q2' : (!decide (low h ∈ kept (ownP (low r)) (hs.map low) ++ wideL r (hs.map low) ns)) = true := by rw [decide_eq_false q2]; rfl
                      walk_at "my steps"
                      (rename Fr _ _ _ _ => Fz); (rename News _ _ _ _ => Nz)
                      exact endY Fz (newsTail Nz) (if_pos (by rw [q1', q2']; rfl)) ⟨_, rfl⟩
                  · have q1' : decide (low h ∈ endsL' r (hs.map low) bs) = false := decide_eq_false q1
                    walk_at "my steps"
                    (rename Fr _ _ _ _ => Fz); (rename News _ _ _ _ => Nz)
                    exact endC Fz Nz (if_neg (by rw [q1']; simp))
                · intro be h18 tk18 bev k18 F N oDb hBe
                  rw [fm_filter] at hBe
                  replace F : Fr (hid s.heap) L h18 _ := F
                  replace N := newsSub2 N
                  walk_at "my steps"
                  replace N : News (hid s.heap) L h18 _ := N
                  have W18 : Wd w mg mb h18 := by walk_at "wd"
                  refine c_sld (belowC B F W18.tab (by exact nofun) rfl) (dictsC D F W18.tab rfl) XB TB W18 (by walk_at "my deep") rfl (Li.led N (by k_mem)) (Li.led N (by k_mem)) hO1 hO2 (Nat.le_trans (List.length_filter_le _ _) hz) (Nat.le_trans (List.length_filter_le _ _) hz) (hsort.filter _) (hsort.filter _) ?_
                  intro h' rr rb rc bv cv n1 n2 n3 tk' R gr fr gb fb gc fc hd1 hd2
                  obtain ⟨g', T', F', N'⟩ := afterS F N D R
                  rw [diff_one H1 H2] at hd1
                  rw [diff_one H2 H1] at hd2
                  have nof : ∀ a : Addr, h18.get? a = none → a ≠ L ∧ g'.get? a = none := fun a e => ⟨nsNe F e, T'.none_ _ (kts_none F.keep e)⟩
                  have N2 := newsAdd' (newsAdd' (newsAdd' N' gc (nof _ fc).1 (nof _ fc).2) gb (nof _ fb).1 (nof _ fb).2) gr (nof _ fr).1 (nof _ fr).2
                  clear N' F N W18
                  walk_at "my steps"
                  (rename Fr _ _ _ _ => Fz); (rename News _ _ _ _ => Nz)
                  refine r_eqPairs ⟨_, (Nz _ (.tail _ (.head _))).1, rfl, _, rfl⟩ ⟨_, (Nz _ (.head _)).1, rfl, _, rfl⟩ (Li.led Nz (by k_mem)) (Li.led Nz (by k_mem)) (Li.led Nz (by k_mem)) (Li.led Nz (by k_mem)) hd1 hd2 hWi hBe (by show aun + 3 + 2 < cLine; (first | lia | omega)) ?_
                  walk_at "my steps"
                  (rename Fr _ _ _ _ => Fy); (rename News _ _ _ _ => Ny)
                  refine r_eqPairs ⟨_, (Ny _ (.head _)).1, rfl, _, rfl⟩ ⟨_, (Ny _ (.tail _ (.tail _ (.tail _ (.tail _ (.tail _ (.tail _ (.tail _ (.head _))))))))).1, rfl, _, rfl⟩ (Li.led Ny (by k_mem)) (Li.led Ny (by k_mem)) (Li.led Ny (by k_mem)) (Li.led Ny (by k_mem)) hO1 hO2 hO1 hO2 (by show aun + 3 + 2 < cLine; (first | lia | omega)) ?_
                  walk_at "my steps"
                  exact hQ _ _ (sameOf T' Fy) (wdS B T' Fy XB TB (Ny (97, tabObj ps6) (by k_mem)).1 ok6)
end
end
section
set_option Elab.async false
set_option maxRecDepth 100000
set_option maxHeartbeats 2000000
open PySem PySem.Calls PySem.Builtin PyProof.Rows
namespace St
theorem led_standIn (t : SetTable) (n : Nat) : (t.standIn n).led = t.led := rfl
theorem led_orStandIn (t : SetTable) (n : Nat) : (t.orStandIn n).led = t.led := by unfold SetTable.orStandIn; split <;> rfl
theorem led_layNew (t : SetTable) (es : Array (Int × Value)) (h : Int) (x : Value) : (layNew t es h x).2.1.led = t.led := by
  unfold layNew
  split
  · exact led_orStandIn _ _
  · rfl
theorem led_relaid {t t' : SetTable} {hs : Array Int} {wanted : Nat} {o : Array Nat} (h : t.relaid hs wanted = some (t', o)) : t'.led = t.led ∧ t'.plain = t.plain := by
  unfold SetTable.relaid SetTable.laid at h
  simp only [Option.bind_eq_bind, Option.bind_eq_some_iff] at h
  obtain ⟨ow, _, h⟩ := h
  cases h
  exact ⟨rfl, rfl⟩
theorem led_relayAll (t : SetTable) (es : Array (Int × Value)) (n : Nat) : (relayAll t es n).2.1.led = t.led := by
  unfold relayAll
  split
  · rename_i t' o h
    dsimp only
    split
    · exact (led_relaid h).1
    · rfl
  · rfl
theorem plain_relayAll {t : SetTable} (es : Array (Int × Value)) (n : Nat) (hp : t.plain = false) : (relayAll t es n).2.1.plain = false := by
  unfold relayAll
  split
  · rename_i t' o h
    dsimp only
    split
    · exact (led_relaid h).2.trans hp
    · rfl
  · rfl
noncomputable def EV (w : World) (x : List Nat) (e : Int × Value) : Prop := e.1 = hashStr w (mk x) ∧ ∃ t, e.2 = .str (mk x) t
/-- a set of texts, in the order in which they came -/
inductive SetP (w : World) (h : Heap) (a : Addr) (xs : List (List Nat)) : Prop
  | is (es ep t l : _) (x1_ : h.get? a = some { cls := .type "set", data := .set es ep t }) (x2_ : List.Perm es.toList l) (x3_ : All2 (EV w) xs l) (x4_ : xs.Nodup) (x5_ : t.fits es.size = true) (x6_ : t.led = !w.params.followText "set-order") (x7_ : (xs ≠ [] → t.plain = false)) : SetP w h a xs
theorem isStr {x : List Nat} {v : Value} {t : Tok} (h : v = .str (mk x) t) : Value.isStrOf (mk x) v = true := by subst h; simp [Value.isStrOf]
theorem mk_inj {x y : List Nat} (h : (mk x : PySem.Str) = mk y) : x = y := by
  have := congrArg (fun z : PySem.Str => z.cps.toList) h
  simpa using this
section
variable {prog : Program} {w : World}
theorem elems {es : Array (Int × Value)} {l : List (Int × Value)} {xs : List (List Nat)} (p : List.Perm es.toList l) (h : All2 (EV w) xs l) : ElemsOf (strKind prog w) es.toList := fun e he => by
  have : ∀ {xs l}, All2 (EV w) xs l → ∀ e ∈ l, (∃ k, (strKind prog w).is k e.2 = true ∧ e.1 = (strKind prog w).hash k) ∧ e.2.scannable = true := fun h => by
    induction h with
    | nil => intro e he; cases he
    | cons h1 _ ih =>
      intro e he
      rcases List.mem_cons.mp he with rfl | he
      · obtain ⟨hh, t, ht⟩ := h1
        exact ⟨⟨_, isStr ht, hh⟩, by rw [ht]; rfl⟩
      · exact ih e he
  exact this h e (p.mem_iff.mp he)
theorem mem_of_find {es : Array (Int × Value)} {l : List (Int × Value)} {xs : List (List Nat)} (p : List.Perm es.toList l) (h : All2 (EV w) xs l) {x : List Nat} : (∃ e ∈ es.toList, (strKind prog w).is (mk x) e.2 = true) ↔ x ∈ xs := by
  have key : ∀ {xs l}, All2 (EV w) xs l → ((∃ e ∈ l, (strKind prog w).is (mk x) e.2 = true) ↔ x ∈ xs) := fun h => by
    induction h with
    | nil => simp
    | cons h1 _ ih =>
      obtain ⟨_, t, ht⟩ := h1
      constructor
      · rintro ⟨e, he, hi⟩
        rcases List.mem_cons.mp he with rfl | he
        · rw [mk_inj ((strKind prog w).inj _ _ _ hi (isStr ht))]
          exact .head _
        · exact .tail _ (ih.mp ⟨e, he, hi⟩)
      · intro hx
        rcases List.mem_cons.mp hx with rfl | hx
        · exact ⟨_, .head _, isStr ht⟩
        · obtain ⟨e, he, hi⟩ := ih.mpr hx
          exact ⟨e, .tail _ he, hi⟩
  refine Iff.trans ⟨fun ⟨e, he, hi⟩ => ⟨e, p.mem_iff.mp he, hi⟩, fun ⟨e, he, hi⟩ => ⟨e, p.mem_iff.mpr he, hi⟩⟩ (key h)
theorem get_put {h : Heap} {a : Addr} {es es' : Array (Int × Value)} {ep : Nat} {t t' : SetTable} (ho : h.get? a = some { cls := .type "set", data := .set es ep t }) :
    (h.update a (Obj.putSet es' t')).get? a = some { cls := .type "set", data := .set es' (ep + 1) t' } := by
  have := Heap.get?_update_self (Obj.putSet es' t') ho rfl
  exact this
variable {A : Around} {E : Value → Shared → Prop} {s : Shared}
theorem lt_scan {es : Array (Int × Value)} {l : List (Int × Value)} {xs : List (List Nat)} (p : List.Perm es.toList l) (h : All2 (EV w) xs l) : es.size = xs.length := by
  rw [← Array.length_toList, p.length_eq, h.len]
/-- one text more -/
theorem add {a : Addr} {xs : List (List Nat)} {x : List Nat} {u : Tok} {Q : Bool → Shared → Prop} (hS : SetP w s.heap a xs) (hz : xs.length ≤ 1000)
    (h : ∀ b h', Heap.SameBut a s.heap h' → SetP w h' a (if x ∈ xs then xs else xs ++ [x]) → Q b { s with heap := h', toks := s.toks + 1 }) :
    wpAny (model prog w) A (setAdd a (.str (mk x) u)) Q E s := by
  obtain ⟨es, ep, t, l, ho, hp, hA, hnd, hf, hled, hpl⟩ := hS
  have hsz := lt_scan hp hA
  have hsb : es.size + 1 < scanBound := by rw [hsz]; show _ < 4096; (first | lia | omega)
  have hel := elems (prog := prog) hp hA
  unfold setAdd
  refine wpAny_holding (wpAny_bind ((strKind prog w).pyHash (k := mk x) (isStr (t := u) rfl) ?_))
  unfold setAddHashed setAddHashedIn
  refine wpAny_holding (wpAny_bind (wpAny_setState_of (s := { s with toks := s.toks + 1 }) ho rfl hf ?_))
  dsimp only
  rw [byScan_of (knd := strKind prog w) rfl (Nat.lt_of_succ_lt hsb) hel]
  simp only [↓reduceIte]
  unfold setAddByScan
  refine wpAny_bind ?_
  refine wpAny_bind (wpAny_rule ?_)
  refine wpAny_bind (wpAny_setScan_of (knd := strKind prog w) (k := mk x) (isStr (t := u) rfl) ho rfl hf hel ?_)
  cases hr : List.findIdx? (fun e => (strKind prog w).is (mk x) e.2) es.toList with
  | some j =>
    dsimp only
    obtain ⟨hj, hpj, _⟩ := List.findIdx?_eq_some_iff_getElem.mp hr
    have hx : x ∈ xs := (mem_of_find hp hA).mp ⟨_, List.getElem_mem hj, hpj⟩
    refine wpAny_pure (wpAny_pure ?_)
    have := h false s.heap (Heap.SameBut.refl a s.heap) (by rw [if_pos hx]; exact ⟨es, ep, t, l, ho, hp, hA, hnd, hf, hled, hpl⟩)
    exact this
  | none =>
    dsimp only
    have hx : x ∉ xs := fun q => by
      obtain ⟨e, he, hi⟩ := (mem_of_find (prog := prog) hp hA).mpr q
      have := List.findIdx?_eq_none_iff.mp hr e he
      rw [hi] at this; cases this
    have hgw : ∀ (b : Bool) {s₁ : Shared} {Q' : Unit → Shared → Prop}, Q' () s₁ → wpAny (model prog w) A (match b with | true => rule "set.scan.the-table-gave-way" | false => pure ()) Q' E s₁ :=
      fun b s₁ Q' hq => by cases b <;> first | exact wpAny_pure hq | exact wpAny_rule hq
    have hperm := layNew_perm t es ((strKind prog w).hash (mk x)) (.str (mk x) u)
    have hfits := layNew_fits t es ((strKind prog w).hash (mk x)) (.str (mk x) u)
    have hled1 := led_layNew t es ((strKind prog w).hash (mk x)) (.str (mk x) u)
    generalize hL : layNew t es ((strKind prog w).hash (mk x)) (.str (mk x) u) = L at hperm hfits hled1 ⊢
    obtain ⟨es1, t1, wasDummy, gave⟩ := L
    dsimp only at hperm hfits hled1 ⊢
    rw [Array.toList_push] at hperm
    have hp1 : List.Perm es1.toList (l ++ [((strKind prog w).hash (mk x), .str (mk x) u)]) := hperm.trans (hp.append_right _)
    have hA1 : All2 (EV w) (xs ++ [x]) (l ++ [((strKind prog w).hash (mk x), .str (mk x) u)]) := hA.snoc ⟨rfl, u, rfl⟩
    have hnd1 : (xs ++ [x]).Nodup := by
      rw [List.nodup_append]
      exact ⟨hnd, by simp, fun a ha b hb e => by rw [List.mem_singleton] at hb; subst hb; exact hx (e ▸ ha)⟩
    have hs1 := lt_scan hp1 hA1
    have hz1 : es1.size ≤ sizeLine := by
      rw [hs1, List.length_append, List.length_singleton]
      exact Nat.le_trans (show xs.length + 1 ≤ 100000 by (first | lia | omega)) szl
    have fin : ∀ (t2 : SetTable), t2.fits es1.size = true → t2.led = t.led → t2.plain = false → wpAny (model prog w) A (do
        storeSet a es1 t2
        if (!wasDummy && t2.tooFull) = true then do
            (match (relayAll t2 es1 (SetTable.grown es1.size)).2.2 with | true => rule "set.scan.the-table-gave-way" | false => pure ())
            storeSet a (relayAll t2 es1 (SetTable.grown es1.size)).1 (relayAll t2 es1 (SetTable.grown es1.size)).2.1
            pure (some true)
          else pure (some true)) (fun r s' => ∃ h', s' = { s with heap := h', toks := s.toks + 1 } ∧ r = some true ∧ Heap.SameBut a s.heap h' ∧ SetP w h' a (xs ++ [x])) E { s with toks := s.toks + 1 } := fun t2 hf2 hl2 hp2 => by
      refine wpAny_bind (wpAny_storeSet_of (s := { s with toks := s.toks + 1 }) ho rfl ?_ hz1)
      have g1 := get_put (es' := es1) (t' := t2) ho
      have sb1 := Heap.SameBut.update s.heap a (Obj.putSet es1 t2)
      split
      · have rp := relayAll_perm t2 es1 (SetTable.grown es1.size)
        have rf := relayAll_fits t2 es1 (SetTable.grown es1.size)
        have rl := led_relayAll t2 es1 (SetTable.grown es1.size)
        have rpl := plain_relayAll es1 (SetTable.grown es1.size) hp2
        generalize relayAll t2 es1 (SetTable.grown es1.size) = R at rp rf rl rpl ⊢
        obtain ⟨es2, t3, gave2⟩ := R
        dsimp only at rp rf rl rpl ⊢
        have hz2 : es2.size ≤ sizeLine := by rw [← Array.length_toList, rp.length_eq, Array.length_toList]; exact hz1
        refine wpAny_bind (hgw _ (wpAny_bind (wpAny_storeSet_of g1 rfl ?_ hz2)))
        exact wpAny_pure ⟨_, rfl, rfl, sb1.trans (Heap.SameBut.update _ a _), es2, _, t3, _, get_put g1, rp.trans hp1, hA1, hnd1, rf, by rw [rl, hl2, hled], fun _ => rpl⟩
      · exact wpAny_pure ⟨_, rfl, rfl, sb1, es1, _, t2, _, g1, hp1, hA1, hnd1, hf2, by rw [hl2, hled], fun _ => hp2⟩
    have out : ∀ r s', (∃ h', s' = { s with heap := h', toks := s.toks + 1 } ∧ r = some true ∧ Heap.SameBut a s.heap h' ∧ SetP w h' a (xs ++ [x])) → wpAny (model prog w) A (match r with | some added => pure added | none => setAddHashedIn a (.str (mk x) u) ((strKind prog w).hash (mk x)) 99999) Q E s' := by
      rintro _ _ ⟨h', rfl, rfl, hsb', hS'⟩
      have := h true h' hsb' (by rw [if_neg hx]; exact hS')
      exact wpAny_pure this
    refine wpAny_bind (hgw _ ?_)
    split
    · refine wpAny_bind ?_
      rw [hashByValue_scannable 8 rfl]
      refine wpAny_pure ?_
      show wpAny _ _ (do
        storeSet a es1 { t1 with plain := false }
        _) _ _ _
      exact wpAny_mono (fin { t1 with plain := false } (SetTable.fits_plain_off hfits) hled1 rfl) (fun r s' hr => out r s' hr) fun _ _ e => e
    · rename_i hpl1
      refine wpAny_bind (wpAny_pure ?_)
      simp only [↓reduceIte]
      exact wpAny_mono (fin t1 hfits hled1 (by simpa using hpl1)) (fun r s' hr => out r s' hr) fun _ _ e => e
end
end St

end
section
set_option Elab.async false
set_option maxRecDepth 100000
set_option maxHeartbeats 4000000
open PySem PySem.Calls PySem.Builtin PyProof.Rows
namespace St
theorem slot_set_iter : Slot "set" "__iter__" "set.__iter__" :=
  .of (owner := "set") (n := "__iter__") (by rw [typeLookup_type, builtinLookup_eq_fast]; kernel_rfl) (by decide +kernel) (by decide +kernel) (by decide +kernel)
    (by first | exact .inl (by decide +kernel) | exact .inr (by decide +kernel)) (by rw [isSubtype_type]; kernel_rfl)
theorem args_set_iter (a : Value) : argsOk "set.__iter__" ⟨[a], []⟩ := by
  unfold argsOk; rw [signature?_of (id := "set.__iter__") (n := ['_', '_', 'r', 'e', 't', 'i', '_', '_']) (o := ['t', 'e', 's']) (by kernel_rfl) F.owner_set]; kernel_rfl
theorem entry_set_iter : entryFor table "set.__iter__" = some Builtin.«frozenset.__iter__» :=
  entryFor_alias (id' := "frozenset.__iter__") (by kernel_rfl) rfl (by decide +kernel) (by kernel_rfl)
theorem slot_seti_next : Slot "set_iterator" "__next__" "set_iterator.__next__" :=
  .of (owner := "set_iterator") (n := "__next__") (by rw [typeLookup_type, builtinLookup_eq_fast]; kernel_rfl) (by decide +kernel) (by decide +kernel) (by decide +kernel)
    (by first | exact .inl (by decide +kernel) | exact .inr (by decide +kernel)) (by rw [isSubtype_type]; kernel_rfl)
theorem args_seti_next (a : Value) : argsOk "set_iterator.__next__" ⟨[a], []⟩ := by unfold argsOk; kernel_rfl
theorem entry_seti_next : entryFor table "set_iterator.__next__" = some Builtin.«set_iterator.__next__» := entryFor_of_fast (by kernel_rfl)
theorem slot_seti_iter : Slot "set_iterator" "__iter__" "set_iterator.__iter__" :=
  .of (owner := "set_iterator") (n := "__iter__") (by rw [typeLookup_type, builtinLookup_eq_fast]; kernel_rfl) (by decide +kernel) (by decide +kernel) (by decide +kernel)
    (by first | exact .inl (by decide +kernel) | exact .inr (by decide +kernel)) (by rw [isSubtype_type]; kernel_rfl)
/-- the first of each -/
noncomputable def step (a : List (List Nat)) (x : List Nat) : List (List Nat) := if x ∈ a then a else a ++ [x]
noncomputable def fm (xs : List (List Nat)) : List (List Nat) := xs.foldl step []
theorem fm_snoc (xs : List (List Nat)) (x : List Nat) : fm (xs ++ [x]) = step (fm xs) x := by unfold fm; rw [List.foldl_append]; rfl
theorem mem_step {a : List (List Nat)} {x y : List Nat} : y ∈ step a x ↔ y ∈ a ∨ y = x := by
  unfold step
  split
  · rename_i h
    exact ⟨.inl, fun h' => h'.elim id fun e => e ▸ h⟩
  · simp
theorem mem_foldl {y : List Nat} : ∀ (xs a : List (List Nat)), y ∈ xs.foldl step a ↔ y ∈ a ∨ y ∈ xs
  | [], a => by simp
  | x :: xs, a => by rw [List.foldl_cons, mem_foldl xs, mem_step, List.mem_cons, or_assoc]
theorem mem_fm {y : List Nat} {xs : List (List Nat)} : y ∈ fm xs ↔ y ∈ xs := by unfold fm; rw [mem_foldl]; simp
theorem len_step (a : List (List Nat)) (x : List Nat) : (step a x).length ≤ a.length + 1 := by unfold step; split <;> simp
theorem len_foldl : ∀ (xs a : List (List Nat)), (xs.foldl step a).length ≤ a.length + xs.length
  | [], a => by simp
  | x :: xs, a => by have := len_foldl xs (step a x); have := len_step a x; rw [List.foldl_cons, List.length_cons]; (first | lia | omega)
theorem len_fm (xs : List (List Nat)) : (fm xs).length ≤ xs.length := by have := len_foldl xs []; simpa [fm] using this
theorem nodup_step {a : List (List Nat)} {x : List Nat} (h : a.Nodup) : (step a x).Nodup := by
  unfold step
  split
  · exact h
  · rename_i hx
    rw [List.nodup_append]
    exact ⟨h, by simp, fun b hb c hc e => by rw [List.mem_singleton] at hc; subst hc; exact hx (e ▸ hb)⟩
theorem SetP.keep {w : World} {h h' : Heap} {a : Addr} {xs : List (List Nat)} (S : SetP w h a xs) (k : ∀ o, h.get? a = some o → h'.get? a = some o) : SetP w h' a xs := by
  obtain ⟨es, ep, t, l, ho, r1, r2, r3, r4, r5, r6⟩ := S
  exact ⟨es, ep, t, l, k _ ho, r1, r2, r3, r4, r5, r6⟩
theorem SetP.typeIs {w : World} {s : Shared} {a : Addr} {xs : List (List Nat)} (S : SetP w s.heap a xs) : s.TypeIs (.ref a) "set" := by
  obtain ⟨_, _, _, _, ho⟩ := S
  exact ⟨_, ho, rfl⟩
section
variable {prog : Program} {w : World} {A : Around} {E : Value → Shared → Prop} {s : Shared}
theorem code_new (a : Value) {Q₁ : Value → Shared → Prop}
    (h : Q₁ (.ref s.heap.objs.size) { s with heap := s.heap.push { cls := .type "set", dict := none, data := .set #[] 0 (.fresh 0 0 (!w.params.followText "set-order")) } }) :
    codeAny (model prog w) A (.call (.builtin "set.__new__") ⟨[.type "set", a], []⟩) (wants Q₁ E) s := by
  refine codeAny_of_tree ?_
  show wpAny _ A.in1 (do checkBuiltinCall "set.__new__" ⟨[.type "set", a], []⟩; again (.builtin "set.__new__" ⟨[.type "set", a], []⟩)) _ _ s
  refine wpAny_bind (wpAny_of_eq (F.newCall_set_1 a) (wpAny_pure ⟨plainId_quiet F.plain_set_new _, codeAny_builtin F.entry_set_new ?_⟩))
  rw [Around.under_plainId F.plain_set_new _]
  unfold Builtin.«set.__new__» Builtin.Frozenset.newClass
  have hsub := sub_set_self
  obtain ⟨hp, g, d, tk, os⟩ := s
  dsimp only
  wp_walk
  refine wpAny_askSetting (wpAny_pure ?_)
  dsimp only
  simp only [newObj]
  refine wpAny_bind (wpAny_alloc (wpAny_pure ?_))
  exact wpAny_pure h
theorem setP_fresh {h : Heap} {a : Addr} {b : Bool} (ho : h.get? a = some { cls := .type "set", dict := none, data := .set #[] 0 (.fresh 0 0 b) }) (hb : b = !w.params.followText "set-order") : SetP w h a [] :=
  ⟨#[], 0, _, [], ho, .refl _, .nil, by simp, by rfl, hb, fun h => absurd rfl h⟩
theorem loop {I : Addr} {fp wr : List Addr} {G : Array GenState → Array GenState → Prop} {n : Nat} {P : Nat → Value → Prop} {Sx : Nat → Shared → Prop} {R : Result → Shared → Prop}
    (W : WalksS prog w A.in1 I fp wr G n P Sx) (S : Addr) (hSf : S ∉ fp) {xs : List (List Nat)} (hxs : xs.length = n) (hval : ∀ i v, P i v → ∃ x t, xs[i]? = some x ∧ v = .str (mk x) t) (hb : n ≤ 1000) :
    ∀ (k i : Nat) (s : Shared), n - i = k → i ≤ n → Sx i s → SetP w s.heap S (fm (xs.take i)) →
      (∀ s', Moved (S :: wr) G s s' → SetP w s'.heap S (fm xs) → R (.ok (.ret .none)) s') →
      codeAny (model prog w) A (.builtin "set.update.loop" ⟨[.ref S, .ref I], []⟩) R s := by
  have hSw : S ∉ wr := fun h => hSf (W.sub _ h)
  have hsub : ∀ b ∈ wr, b ∈ S :: wr := fun b hb => List.mem_cons_of_mem _ hb
  intro k
  induction k with
  | zero =>
    intro i s hk hi hst hS hR
    have hin : i = n := Nat.le_antisymm hi (Nat.le_of_sub_eq_zero hk)
    subst hin
    refine codeAny_builtin F.entry_set_update_loop ?_
    rw [Around.under_plainId F.plain_set_update_loop _]
    show wpAny _ A.in1 (pyNext (.ref I) >>= _) _ _ s
    refine wpAny_bind (W.done s _ _ hst fun s' hm => ?_)
    show wpAny _ A.in1 (ret Value.none) _ _ s'
    rw [List.take_of_length_le (Nat.le_of_eq hxs)] at hS
    exact wpAny_pure (hR s' (hm.mono hsub) (hS.keep fun o => hm.heap S o hSw))
  | succ k ih =>
    intro i s hk hi hst hS hR
    have hlt : i < n := Nat.lt_of_sub_pos (by rw [hk]; exact Nat.succ_pos k)
    refine codeAny_builtin F.entry_set_update_loop ?_
    rw [Around.under_plainId F.plain_set_update_loop _]
    show wpAny _ A.in1 (pyNext (.ref I) >>= _) _ _ s
    refine wpAny_bind (W.item i s _ _ hlt hst fun v s' hP hst' hm => ?_)
    obtain ⟨x, t, hx, rfl⟩ := hval i v hP
    have hS' := hS.keep fun o => hm.heap S o hSw
    show wpAny _ A.in1 (holding [Value.str (mk x) t] (setAdd S (.str (mk x) t)) >>= _) _ _ s'
    refine wpAny_bind (wpAny_holding ?_)
    have hz : (fm (xs.take i)).length ≤ 1000 := Nat.le_trans (len_fm _) (by rw [List.length_take]; (first | lia | omega))
    refine add hS' hz fun b h' hsb hS2 => ?_
    have hSi : SetP w h' S (fm (xs.take (i + 1))) := by
      rw [List.take_add_one, hx, Option.toList_some, fm_snoc]
      exact hS2
    refine wpAny_pure ⟨plainId_quiet F.plain_set_update_loop _, ih (i + 1) _ (by rw [Nat.sub_add_eq, hk]; rfl) hlt (W.frame _ s' _ _ hst' (Nat.le_succ _) fun b hb o e => ?_) hSi fun s'' hm'' hS'' => ?_⟩
    · rw [hsb.2 b (fun h : b = S => hSf (by rw [← h]; exact hb))]; exact e
    · refine hR s'' (Moved.trans W.gtrans ((hm.mono hsub).then_heap (Nat.le_succ _) fun b o hb e => ?_) hm'') hS''
      rw [hsb.2 b (fun h : b = S => hb (by rw [h]; exact List.mem_cons_self))]; exact e
theorem all2_get {xs : List (List Nat)} {vs : List Value} (h : All2 StrV xs vs) : ∀ (i : Nat) (v : Value), vs[i]? = some v → ∃ x t, xs[i]? = some x ∧ v = .str (mk x) t := by
  induction h with
  | nil => intro i v h; simp at h
  | cons h1 _ ih =>
    intro i v h
    cases i with
    | zero =>
      obtain ⟨t, rfl⟩ := h1
      simp at h
      exact ⟨_, t, rfl, h.symm⟩
    | succ i => exact ih i v (by simpa using h)
theorem make {l : Addr} {vs : List Value} {xs : List (List Nat)} {Q : Value → Shared → Prop} (hh : A.handled = none) (hl : s.heap.IsList l vs.toArray) (hx : All2 StrV xs vs) (hb : xs.length ≤ 1000)
    (h : ∀ (h' : Heap) (tk : Nat), SetP w h' s.heap.objs.size (fm xs) → (∀ b o, b < s.heap.objs.size → s.heap.get? b = some o → h'.get? b = some o) → Q (.ref s.heap.objs.size) { s with heap := h', toks := tk }) :
    wpAny (model prog w) A (call (.type "set") [.ref l]) Q E s := by
  obtain ⟨c, tl, hmro⟩ := F.called_set.mro
  have hmade := F.called_set.made
  have hsub := F.called_set.sub
  refine wpAny_call (codeAny_of_tree ?_)
  show wpAny _ _ (callAny (.type "set") _) _ _ _
  refine wpAny_pure ⟨Code.quiet_builtin _ (by decide +kernel), codeAny_builtin F.entry_type_call ?_⟩
  rw [Around.under_plain (weight_type_call_type "set" [.ref l] []) rfl]
  have h1 := F.called_set.notType
  have h2 := F.called_set.canCreate
  have hct := F.typeCall_set_1 (.ref l)
  repeat (any_goals (first | assumption | wp_step))
  refine codeAny_mono (code_new (.ref l) (E := E) (Q₁ := fun obj s₁ => obj = .ref s.heap.objs.size ∧ s₁ = { s with heap := s.heap.push { cls := .type "set", dict := none, data := .set #[] 0 (.fresh 0 0 (!w.params.followText "set-order")) } }) ⟨rfl, rfl⟩) fun r s₁ hr => ?_
  cases r with
  | error e => exact hr
  | ok fl =>
    cases fl with
    | ret obj =>
      obtain ⟨rfl, rfl⟩ := hr
      obtain ⟨led, hled⟩ : ∃ b, b = !w.params.followText "set-order" := ⟨_, rfl⟩
      rw [← hled]
      have hS : (s.heap.push { cls := .type "set", dict := none, data := .set #[] 0 (.fresh 0 0 led) }).get? s.heap.objs.size = some { cls := .type "set", dict := none, data := .set #[] 0 (.fresh 0 0 led) } := Heap.get?_push_size _ rfl
      have hT : Shared.TypeIs { s with heap := s.heap.push { cls := .type "set", dict := none, data := .set #[] 0 (.fresh 0 0 led) } } (.ref s.heap.objs.size) "set" := ⟨_, hS, rfl⟩
      have hli := F.called_set.init.lookup
      have hbi := F.called_set.init.bind (.ref s.heap.objs.size)
      repeat (any_goals (first | assumption | wp_step))
      refine codeAny_mono (codeAny_call_builtin (R := wants (fun r s₂ => r = .none ∧ ∃ h' tk, s₂ = { s with heap := h', toks := tk } ∧ SetP w h' s.heap.objs.size (fm xs) ∧
          (∀ b o, b < s.heap.objs.size → s.heap.get? b = some o → h'.get? b = some o)) E) F.called_set.init.plain F.entry_set_init (check_set_init_1 hT ?_)) fun r₂ s₂ hr₂ => ?_
      · obtain ⟨ol, hol, hcl, nl, hdl⟩ := hl
        obtain ⟨ocls, odict, odata, oslots⟩ := ol
        simp only at hcl hdl
        subst hcl; subst hdl
        have hol' : (s.heap.push { cls := .type "set", dict := none, data := .set #[] 0 (.fresh 0 0 led) }).get? l = some { cls := .type "list", dict := odict, data := .seq vs.toArray nl, slots := oslots } := Heap.get?_push_of_some _ hol
        have hsls := F.sub_list_set
        have hslf := F.sub_list_frozenset
        have hne : (Value.type "list" == Value.type "dict") = false := by decide
        have hl1 : (s.heap.push { cls := .type "set", dict := none, data := .set #[] 0 (.fresh 0 0 led) }).IsList l vs.toArray := ⟨_, hol', rfl, nl, rfl⟩
        unfold Builtin.«set.__init__» noKeywords Builtin.Frozenset.updateFrom
        generalize hPI : pyIter = PI
        wp_walk
        subst hPI
        refine wpAny_pyIter_list hl1 ?_
        refine wpAny_bind (wpAny_runValue ?_)
        have hlS : l < s.heap.objs.size := Heap.lt_size hol
        have hh3 : A.in1.in1.in1.handled = none := by simp [hh]
        have hneI : l ≠ (s.heap.push { cls := .type "set", dict := none, data := .set #[] 0 (.fresh 0 0 led) }).objs.size := by
          rw [Heap.size_push]; exact Nat.ne_of_lt (Nat.lt_succ_of_lt hlS)
        have hSf : s.heap.objs.size ∉ [(s.heap.push { cls := .type "set", dict := none, data := .set #[] 0 (.fresh 0 0 led) }).objs.size, l] := by
          rw [Heap.size_push]; simp only [List.mem_cons, List.mem_singleton, List.not_mem_nil, or_false, not_or]
          exact ⟨Nat.ne_of_lt (Nat.lt_succ_self _), Nat.ne_of_gt hlS⟩
        have hval : ∀ (i : Nat) (v : Value), vs.toArray[i]? = some v → ∃ x t, xs[i]? = some x ∧ v = .str (mk x) t := fun i v hv => all2_get hx i v (by simpa using hv)
        have hsz : vs.toArray.size = xs.length := by rw [List.size_toArray, hx.len]
        refine loop ((Walks.list hh3 _ l hneI vs.toArray).toS) s.heap.objs.size hSf hsz.symm hval (by (first | lia | omega)) (vs.toArray.size - 0) 0 _ (by (first | lia | omega)) (Nat.zero_le _)
          ⟨⟨_, Heap.get?_push_size _ rfl, rfl, rfl⟩, (hl1.push _)⟩ ?hS0 ?hR
        case hS0 =>
          have hget : ((s.heap.push { cls := .type "set", dict := none, data := .set #[] 0 (.fresh 0 0 led) }).push { cls := .type "list_iterator", data := .fields #[.ref l, .int 0 0] }).get? s.heap.objs.size
              = some { cls := .type "set", dict := none, data := .set #[] 0 (.fresh 0 0 led) } := Heap.get?_push_of_some _ hS
          exact setP_fresh hget hled
        case hR =>
          intro s' hm hS'
          obtain ⟨h', g', d', tk', os'⟩ := s'
          have eg : g' = s.gens := hm.gens
          have ed : d' = s.drawn := hm.drawn
          have eo : os' = s.os := hm.os
          subst eg; subst ed; subst eo
          show wpAny _ _ _ _ _ _
          refine wpAny_pure ?_
          show wpAny _ _ (ret Value.none) _ _ _
          refine wpAny_pure ⟨rfl, h', tk', rfl, hS', fun b o hb e => ?_⟩
          have hb1 : b ≠ s.heap.objs.size := Nat.ne_of_lt hb
          have hb2 : b ≠ (s.heap.push { cls := .type "set", dict := none, data := .set #[] 0 (.fresh 0 0 led) }).objs.size := by
            rw [Heap.size_push]; exact Nat.ne_of_lt (Nat.lt_succ_of_lt hb)
          exact hm.heap b o (by simp only [List.mem_cons, List.mem_singleton, List.not_mem_nil, or_false, not_or]; exact ⟨hb1, hb2⟩) (Heap.get?_push_of_some _ (Heap.get?_push_of_some _ e))
      · cases r₂ with
        | error e => exact hr₂
        | ok fl₂ =>
          cases fl₂ with
          | ret r =>
            obtain ⟨rfl, h', tk, rfl, hS', hk'⟩ := hr₂
            repeat (any_goals (first | assumption | wp_step))
            exact h _ _ hS' hk'
          | _ => exact hr₂.elim
    | _ => exact hr.elim
end
end St

end
section
set_option Elab.async false
set_option maxRecDepth 100000
set_option maxHeartbeats 4000000
open PySem PySem.Calls PySem.Builtin PyProof.Rows
namespace St
theorem perm_erase {α : Type} : ∀ {l : List α} {i : Nat} {x : α}, l[i]? = some x → (x :: l.eraseIdx i).Perm l
  | [], i, x, h => by simp at h
  | y :: l, 0, x, h => by simp at h; subst h; exact .refl _
  | y :: l, i + 1, x, h => by
    rw [List.getElem?_cons_succ] at h
    rw [List.eraseIdx_cons_succ]
    exact (List.Perm.swap y x _).trans ((perm_erase h).cons y)
theorem pickGo {α : Type} (next : Nat → Nat) : ∀ (n k : Nat) (l : List α) (out : Array α), n = l.length → (pickOrder.go next n k l out).toList.Perm (out.toList ++ l)
  | 0, k, l, out, h => by
    have : l = [] := List.length_eq_zero_iff.mp h.symm
    subst this
    unfold pickOrder.go
    rw [List.append_nil]
  | n + 1, k, l, out, h => by
    unfold pickOrder.go
    have hlt : next k % l.length < l.length := Nat.mod_lt _ (by (first | lia | omega))
    split
    · rename_i x hx
      refine (pickGo next n (k + 1) _ _ (by rw [List.length_eraseIdx_of_lt hlt]; (first | lia | omega))).trans ?_
      rw [Array.toList_push, List.append_assoc]
      exact (perm_erase hx).append_left _
    · rename_i hx
      rw [List.getElem?_eq_none_iff] at hx
      (first | lia | omega)
theorem pickPerm {α : Type} (next : Nat → Nat) (xs : Array α) : (pickOrder next xs).toList.Perm xs.toList := by
  unfold pickOrder
  exact (pickGo next xs.size 0 xs.toList #[] (by simp)).trans (by simp)
section
variable {prog : Program} {w : World} {A : Around} {E : Value → Shared → Prop} {s : Shared}
theorem wpAny_choose {src : Source} {n : Nat} {Q : Nat → Shared → Prop} (hn : n ≠ 0) (h : ∀ i d, i < n → Q i { s with drawn := d }) : wpAny (model prog w) A (choose src n) Q E s := by
  intro Γ p hΓ
  show Sem.wp _ _ (Sem.choose src n Sem.pure) _ _ _ _
  rw [Sem.wp_choose]
  exact ⟨hn, by rw [Sem.wp_pure]; exact h _ _ (Nat.mod_lt _ (Nat.pos_of_ne_zero hn))⟩
theorem wpAny_drawOrder {α : Type} : ∀ (n : Nat) (l : List α) {s : Shared} {Q : List α → Shared → Prop}, n = l.length → (∀ l' d, l'.Perm l → Q l' { s with drawn := d }) → wpAny (model prog w) A (drawOrder n l) Q E s
  | 0, l, s, Q, h, hQ => by
    have : l = [] := List.length_eq_zero_iff.mp h.symm
    subst this
    exact wpAny_pure (hQ [] s.drawn (.refl _))
  | n + 1, [], s, Q, h, hQ => by simp at h
  | n + 1, x :: xs, s, Q, h, hQ => by
    show wpAny _ _ (choose .order (x :: xs).length >>= _) _ _ _
    refine wpAny_bind (wpAny_choose (by simp) fun i d hi => ?_)
    rw [List.getElem?_eq_getElem hi]
    dsimp only
    refine wpAny_bind (wpAny_drawOrder n _ (by rw [List.length_eraseIdx_of_lt hi]; simp at h ⊢; (first | lia | omega)) fun l' d' hp => ?_)
    exact wpAny_pure (hQ _ d' ((hp.cons _).trans (perm_erase (List.getElem?_eq_getElem hi))))
theorem setDrawn_eq (a : Addr) : setDrawn a = (do
    let (es, _, t) ← setState a
    let byText ← setsByText
    return !byText && (!t.plain && decide (es.size > 1))) := rfl
theorem setWalk_eq (a : Addr) : setWalk a = (do
    let (es, epoch, t) ← setState a
    if ← setsByText then return pickOrder ((← ask).params.setOrder a epoch) es
    if (!t.plain && decide (es.size > 1)) = true then return (← drawOrder es.size es.toList).toArray
    (do if (!t.led && decide (es.size > 1)) = true then unsupported "set:maker-not-led" : Sem Unit)
    return es) := rfl
theorem setNext_eq (a : Addr) (slot given epochThen : Nat) : setNext a slot given epochThen = (do
    let (es, epoch, t) ← setState a
    if ← setsByText then
      if epoch != epochThen then unsupported "set_iterator.__next__:elements-changed"
      return ((← setWalk a)[given]?).map fun e => (e.2, slot)
    if (!t.plain && decide (es.size > 1)) = true then unsupported "set_iterator.__next__:the-table-is-plain-no-more"
    (do if (!t.led && !es.isEmpty) = true then unsupported "set:maker-not-led" : Sem Unit)
    let i := SetTable.below t.place slot
    return match es[i]?, t.place[i]? with
      | some (_, x), some j => some (x, j + 1)
      | _, _ => none) := rfl
theorem below_zero {p : Array Nat} (h : p.size ≤ 1) : SetTable.below p 0 = 0 := by
  unfold SetTable.below
  match hs : p.size, h with
  | 0, _ => rfl
  | 1, _ => simp [SetTable.below.go]
theorem below_one (j : Nat) : SetTable.below #[j] (j + 1) = 1 := by
  unfold SetTable.below
  simp [SetTable.below.go]
/-- the iterator of a set, its order fixed -/
inductive ItK (w : World) (S I T : Addr) (ord : List (Int × Value)) (i : Nat) (h : Heap) (es : Array (Int × Value)) (ep : Nat) (t : SetTable) : Value → Prop
  | text (x1_ : w.params.followText "set-order" = true) (x2_ : ord = (pickOrder (w.params.setOrder S ep) es).toList) : ItK w S I T ord i h es ep t (.int 0 0)
  | led (x1_ : w.params.followText "set-order" = false) (x2_ : t.led = true) (x3_ : es.size ≤ 1) (x4_ : ord = es.toList) (k : Nat) (x5_ : (i = 0 ∧ k = 0) ∨ (i = 1 ∧ ∃ j, t.place = #[j] ∧ k = j + 1)) : ItK w S I T ord i h es ep t (.int (k : Nat) 0)
  | drawn (places : List Nat) (x1_ : h.get? T = some { cls := .type "tuple", data := .seq (places.map fun p : Nat => rawInt p).toArray }) (x2_ : T ≠ I) (n : Nat) (x3_ : n = es.size) (x4_ : places.Perm (List.range n))
      (x5_ : ∀ k : Nat, ord[k]? = places[k]?.bind (es[·]?)) : ItK w S I T ord i h es ep t (.ref T)
inductive ItP (w : World) (S I T : Addr) (ord : List (Int × Value)) (i : Nat) (h : Heap) : Prop
  | is (es : Array (Int × Value)) (ep : Nat) (t : SetTable) (first : Value) (x1_ : h.get? S = some { cls := .type "set", data := .set es ep t }) (x2_ : t.fits es.size = true) (x3_ : ord.Perm es.toList)
      (x4_ : h.get? I = some { cls := .type "set_iterator", dict := none, data := .fields #[first, .int (i : Nat) 0, .ref S, .int (es.size : Nat) 0, .int (ep : Nat) 0], slots := #[] })
      (x5_ : ItK w S I T ord i h es ep t first)
theorem ItP.typeIs {s : Shared} {S I T : Addr} {ord : List (Int × Value)} {i : Nat} (x : ItP w S I T ord i s.heap) : s.TypeIs (.ref I) "set_iterator" := by
  obtain ⟨_, _, _, _, _, _, _, h, _⟩ := x
  exact ⟨_, h, rfl⟩
theorem ItP.keep {h h' : Heap} {S I T : Addr} {ord : List (Int × Value)} {i : Nat} (x : ItP w S I T ord i h) (k : ∀ b ∈ [I, S, T], ∀ o, h.get? b = some o → h'.get? b = some o) : ItP w S I T ord i h' := by
  obtain ⟨es, ep, t, first, h1, h2, h3, h4, h5⟩ := x
  refine ⟨es, ep, t, first, k _ (.tail _ (.head _)) _ h1, h2, h3, k _ (.head _) _ h4, ?_⟩
  cases h5 with
  | text a b => exact .text a b
  | led a b c d k e => exact .led a b c d k e
  | drawn pl a b n c d e => exact .drawn pl (k _ (.tail _ (.tail _ (.head _))) _ a) b n c d e
theorem next_text {S : Addr} {es : Array (Int × Value)} {ep slot i : Nat} {t : SetTable} {Q : Option (Value × Nat) → Shared → Prop} (hS : s.heap.get? S = some { cls := .type "set", data := .set es ep t }) (hf : t.fits es.size = true)
    (ht : w.params.followText "set-order" = true) (hQ : Q (((pickOrder (w.params.setOrder S ep) es)[i]?).map fun e => (e.2, slot)) s) : wpAny (model prog w) A (setNext S slot i ep) Q E s := by
  rw [setNext_eq]
  refine wpAny_bind (wpAny_setState_of hS rfl hf ?_)
  dsimp only
  refine wpAny_bind (m := setsByText) (wpAny_bind (wpAny_askSetting (wpAny_pure ?_)))
  show wpAny _ _ (if w.params.followText "set-order" = true then _ else _) _ _ _
  rw [if_pos ht]
  simp only [bne_self_eq_false, Bool.false_eq_true, ↓reduceIte]
  refine wpAny_bind ?_
  rw [setWalk_eq]
  refine wpAny_bind (wpAny_setState_of hS rfl hf ?_)
  dsimp only
  refine wpAny_bind (m := setsByText) (wpAny_bind (wpAny_askSetting (wpAny_pure ?_)))
  show wpAny _ _ (if w.params.followText "set-order" = true then _ else _) _ _ _
  rw [if_pos ht]
  exact wpAny_bind (wpAny_askSetting (wpAny_pure (wpAny_pure hQ)))
theorem next_led {S : Addr} {es : Array (Int × Value)} {ep slot i : Nat} {t : SetTable} {Q : Option (Value × Nat) → Shared → Prop} (hS : s.heap.get? S = some { cls := .type "set", data := .set es ep t }) (hf : t.fits es.size = true)
    (ht : w.params.followText "set-order" = false) (hl : t.led = true) (hz : es.size ≤ 1) (hQ : Q (match es[SetTable.below t.place slot]?, t.place[SetTable.below t.place slot]? with
      | some (_, x), some j => some (x, j + 1)
      | _, _ => none) s) : wpAny (model prog w) A (setNext S slot i ep) Q E s := by
  rw [setNext_eq]
  refine wpAny_bind (wpAny_setState_of hS rfl hf ?_)
  dsimp only
  refine wpAny_bind (m := setsByText) (wpAny_bind (wpAny_askSetting (wpAny_pure ?_)))
  show wpAny _ _ (if w.params.followText "set-order" = true then _ else _) _ _ _
  rw [if_neg (by rw [ht]; decide)]
  rw [if_neg (by simp only [Bool.and_eq_true, decide_eq_true_eq, not_and]; intro _; (first | lia | omega))]
  refine wpAny_bind ?_
  rw [if_neg (by rw [hl]; simp)]
  exact wpAny_pure (wpAny_pure hQ)
theorem seti_fields {I : Addr} {f0 f1 f2 f3 f4 x : Value} {k : Nat} {Q : Unit → Shared → Prop} (hI : s.heap.get? I = some { cls := .type "set_iterator", dict := none, data := .fields #[f0, f1, f2, f3, f4], slots := #[] }) (hk : k < 5)
    (hQ : ∀ h', h'.get? I = some { cls := .type "set_iterator", dict := none, data := .fields (#[f0, f1, f2, f3, f4].setIfInBounds k x), slots := #[] } → Heap.SameBut I s.heap h' → Q () { s with heap := h' }) : wpAny (model prog w) A (setField (.ref I) k x) Q E s :=
  wpAny_setField_rec hI hk hQ
/-- one turn of a set's iterator, by what its first field is -/
theorem next_any {S I : Addr} {es : Array (Int × Value)} {ep i : Nat} {t : SetTable} {first : Value} {Q : Option Value → Shared → Prop} (hh : A.handled = none)
    (hS : s.heap.get? S = some { cls := .type "set", data := .set es ep t }) (hf : t.fits es.size = true)
    (hI : s.heap.get? I = some { cls := .type "set_iterator", dict := none, data := .fields #[first, .int (i : Nat) 0, .ref S, .int (es.size : Nat) 0, .int (ep : Nat) 0], slots := #[] })
    (hk : (∃ (k : Nat) (o : Option (Value × Nat)), first = .int (k : Nat) 0 ∧ (∀ (Q' : Option (Value × Nat) → Shared → Prop) (E' : Value → Shared → Prop), Q' o s → wpAny (model prog w) A.in1 (setNext S k i ep) Q' E' s) ∧
        (∀ x nx, o = some (x, nx) → ∀ h', h'.get? I = some { cls := .type "set_iterator", dict := none, data := .fields #[.int (nx : Nat) 0, .int ((i + 1 : Nat)) 0, .ref S, .int (es.size : Nat) 0, .int (ep : Nat) 0], slots := #[] } → Heap.SameBut I s.heap h' → Q (some x) { s with heap := h' }) ∧
        (o = none → ∀ h', Heap.ExtBut I s.heap h' → Q none { s with heap := h' })) ∨
      (∃ (places : List Nat) (T : Addr), first = .ref T ∧ s.heap.get? T = some { cls := .type "tuple", data := .seq (places.map fun p : Nat => rawInt p).toArray } ∧
        (∀ p, places[i]? = some p → ∃ x, es[p]? = some x ∧ ∀ h', h'.get? I = some { cls := .type "set_iterator", dict := none, data := .fields #[.ref T, .int ((i + 1 : Nat)) 0, .ref S, .int (es.size : Nat) 0, .int (ep : Nat) 0], slots := #[] } → Heap.SameBut I s.heap h' → Q (some x.2) { s with heap := h' }) ∧
        (places[i]? = none → ∀ h', Heap.ExtBut I s.heap h' → Q none { s with heap := h' }))) :
    wpAny (model prog w) A (pyNext (.ref I)) Q E s := by
  have hT : s.TypeIs (.ref I) "set_iterator" := ⟨_, hI, rfl⟩
  unfold pyNext
  refine wpAny_bind (wpAny_attempt (wpAny_callSpecial?_slot (name := Str.ofString "__next__") hT slot_seti_next
    (wpAny_call_entry slot_seti_next hT entry_seti_next ?_ (args_seti_next _))))
  unfold Builtin.«set_iterator.__next__» slotArgs
  simp only [List.isEmpty_nil, Bool.not_true, Bool.false_eq_true, ↓reduceIte, List.length_nil, bne_self_eq_false, pure_bind]
  refine wpAny_bind (wpAny_fieldsOf hI rfl ?_)
  dsimp only
  refine wpAny_bind (wpAny_setEntries_of hS rfl hf ?_)
  simp only [bne_self_eq_false, Bool.false_eq_true, ↓reduceIte]
  have fin : ∀ (h₁ : Heap) (P : Fin → Shared → Prop) (E' : Value → Shared → Prop), Heap.ExtBut I s.heap h₁ → (∀ a s', E' a s' → True) → (∀ h' a, Heap.ExtBut I s.heap h' → Shared.TypeIs { s with heap := h' } a "StopIteration" → E' a { s with heap := h' }) →
      wpAny (model prog w) A.in1 (do raiseNew (← newExc (.type "StopIteration") []) : Sem Fin) P E' { s with heap := h₁ } := fun h₁ P E' x _ hE => by
    refine wpAny_bind ?_
    simp only [newExc, newTuple]
    refine wpAny_bind (wpAny_newObj_type ?_ (by size_fits))
    refine wpAny_bind (m := firstArgMember _ _) (wpAny_of_eq (a := Value.none) (by first | rfl | (simp only [firstArgMember]; rfl)) ?_)
    refine wpAny_newObj_type ?_ (by size_fits)
    simp only [raiseNew]
    refine wpAny_bind (wpAny_handled ?_)
    rw [show A.in1.handled = none from hh]
    refine wpAny_bind (wpAny_pure (wpAny_throw ?_))
    exact hE _ _ ((x.push _).push _) ⟨_, Heap.get?_push_size _ rfl, rfl⟩
  rcases hk with ⟨k, o, rfl, H, hs, hn⟩ | ⟨places, T, rfl, hTp, hs, hn⟩
  · dsimp only
    simp only [Int.toNat_natCast]
    refine wpAny_bind (H _ _ ?_)
    cases o with
    | some p =>
      obtain ⟨x, nx⟩ := p
      dsimp only
      refine wpAny_bind (seti_fields hI (by decide) fun h₁ g₁ b₁ => ?_)
      refine wpAny_bind (seti_fields g₁ (by decide) fun h₂ g₂ b₂ => ?_)
      exact wpAny_pure ⟨_, rfl, wpAny_pure (hs x nx rfl h₂ g₂ (b₁.trans b₂))⟩
    | none =>
      dsimp only
      refine wpAny_bind (seti_fields hI (by decide) fun h₁ g₁ b₁ => ?_)
      refine fin h₁ _ _ b₁.extBut (fun _ _ _ => trivial) fun h' a x hT' => ?_
      refine wpAny_bind (wpAny_isInstance (T := "StopIteration") (b := true) hT' isSubtype_stop ?_)
      exact wpAny_pure (hn rfl _ x)
  · dsimp only
    refine wpAny_bind (wpAny_seqItems hTp rfl ?_)
    dsimp only
    simp only [Int.toNat_natCast, List.getElem?_toArray, List.getElem?_map]
    cases hpi : places[i]? with
    | some p =>
      obtain ⟨x, hx, hs⟩ := hs p hpi
      dsimp only [Option.map_some, rawInt]
      unfold setNextDrawn
      refine wpAny_bind (wpAny_bind (wpAny_setState_of hS rfl hf ?_))
      simp only [Int.toNat_natCast, bne_self_eq_false, Bool.false_eq_true, ↓reduceIte, hx]
      refine wpAny_pure ?_
      refine wpAny_bind (seti_fields hI (by decide) fun h₁ g₁ b₁ => ?_)
      exact wpAny_pure ⟨_, rfl, wpAny_pure (hs h₁ g₁ b₁)⟩
    | none =>
      dsimp only [Option.map_none]
      refine wpAny_bind (seti_fields hI (by decide) fun h₁ g₁ b₁ => ?_)
      refine wpAny_bind (seti_fields g₁ (by decide) fun h₂ g₂ b₂ => ?_)
      refine fin h₂ _ _ (b₁.trans b₂).extBut (fun _ _ _ => trivial) fun h' a x hT' => ?_
      refine wpAny_bind (wpAny_isInstance (T := "StopIteration") (b := true) hT' isSubtype_stop ?_)
      exact wpAny_pure (hn hpi _ x)
theorem next_item {S I T : Addr} {ord : List (Int × Value)} {i : Nat} {x : Int × Value} {Q : Option Value → Shared → Prop} (hh : A.handled = none) (hSI : S ≠ I) (hit : ItP w S I T ord i s.heap) (hx : ord[i]? = some x)
    (hQ : ∀ h', ItP w S I T ord (i + 1) h' → Heap.SameBut I s.heap h' → Q (some x.2) { s with heap := h' }) : wpAny (model prog w) A (pyNext (.ref I)) Q E s := by
  obtain ⟨es, ep, t, first, hS, hf, hp, hI, hm⟩ := hit
  rcases hm with ⟨ht, ho⟩ | ⟨ht, hl, hz, ho, k, hk⟩ | ⟨places, hTp, hTI, n, hn, hpp, hord⟩
  · refine next_any hh hS hf hI (.inl ⟨0, some (x.2, 0), rfl, fun Q' E' h => next_text hS hf ht (by rw [← Array.getElem?_toList, ← ho, hx]; exact h), fun y nx e h' g b => ?_, nofun⟩)
    cases e
    exact hQ h' ⟨es, ep, t, _, (b.2 S hSI).trans hS, hf, hp, g, .text ht ho⟩ b
  · have hlt : i < es.size := by
      rw [ho] at hx
      have := (List.getElem?_eq_some_iff.mp hx).1
      rwa [Array.length_toList] at this
    obtain ⟨rfl, rfl⟩ : i = 0 ∧ k = 0 := by
      rcases hk with h | ⟨rfl, _⟩
      · exact h
      · exact absurd hlt (Nat.not_lt_of_le hz)
    have hpl : t.place.size = es.size := by
      unfold SetTable.fits at hf
      simp only [Bool.and_eq_true, beq_iff_eq] at hf
      exact hf.1
    obtain ⟨j, hj⟩ : ∃ j, t.place = #[j] := Array.size_eq_one_iff.mp (hpl.trans (Nat.le_antisymm hz hlt))
    refine next_any hh hS hf hI (.inl ⟨0, some (x.2, j + 1), rfl, fun Q' E' h => next_led hS hf ht hl hz ?_, fun y nx e h' g b => ?_, nofun⟩)
    · rw [below_zero (Nat.le_trans (Nat.le_of_eq hpl) hz), hj]
      rw [← Array.getElem?_toList, ← ho, hx]
      exact h
    · cases e
      exact hQ h' ⟨es, ep, t, _, (b.2 S hSI).trans hS, hf, hp, g, .led ht hl hz ho (j + 1) (.inr ⟨rfl, j, hj, rfl⟩)⟩ b
  · refine next_any hh hS hf hI (.inr ⟨places, T, rfl, hTp, fun p hpi => ?_, fun hq => ?_⟩)
    · have hep := hord i
      rw [hx, hpi] at hep
      exact ⟨x, hep.symm, fun h' g b => hQ h' ⟨es, ep, t, _, (b.2 S hSI).trans hS, hf, hp, g, .drawn places ((b.2 T hTI).trans hTp) hTI n hn hpp hord⟩ b⟩
    · have hep := hord i
      rw [hx, hq] at hep
      cases hep
theorem next_done {S I T : Addr} {ord : List (Int × Value)} {Q : Option Value → Shared → Prop} (hh : A.handled = none) (_ : S ≠ I) (hit : ItP w S I T ord ord.length s.heap)
    (hQ : ∀ h', Heap.ExtBut I s.heap h' → Q none { s with heap := h' }) : wpAny (model prog w) A (pyNext (.ref I)) Q E s := by
  obtain ⟨es, ep, t, first, hS, hf, hp, hI, hm⟩ := hit
  have hol : ord.length = es.size := by rw [hp.length_eq, Array.length_toList]
  rcases hm with ⟨ht, ho⟩ | ⟨ht, hl, hz, ho, k, hk⟩ | ⟨places, hTp, hTI, n, hn, hpp, hord⟩
  · exact next_any hh hS hf hI (.inl ⟨0, none, rfl, fun Q' E' h => next_text hS hf ht (by rw [← Array.getElem?_toList, ← ho, List.getElem?_eq_none (Nat.le_refl _)]; exact h), nofun, fun _ => hQ⟩)
  · refine next_any hh hS hf hI (.inl ⟨k, none, rfl, fun Q' E' h => next_led hS hf ht hl hz ?_, nofun, fun _ => hQ⟩)
    have hnone : es[SetTable.below t.place k]? = none := by
      rcases hk with ⟨h0, rfl⟩ | ⟨h1, j, hj, rfl⟩
      · have hpl : t.place.size = es.size := by
          unfold SetTable.fits at hf
          simp only [Bool.and_eq_true, beq_iff_eq] at hf
          exact hf.1
        rw [below_zero (Nat.le_trans (Nat.le_of_eq hpl) hz)]
        exact Array.getElem?_eq_none (Nat.le_of_eq (hol.symm.trans h0))
      · rw [hj, below_one]
        exact Array.getElem?_eq_none hz
    rw [hnone]
    exact h
  · refine next_any hh hS hf hI (.inr ⟨places, T, rfl, hTp, fun p hpi => ?_, fun _ => hQ⟩)
    have := (List.getElem?_eq_some_iff.mp hpi).1
    rw [hpp.length_eq, List.length_range, hn, hol] at this
    exact absurd this (Nat.lt_irrefl _)
theorem all2_perm {α β : Type} {R : α → β → Prop} {l l' : List β} (p : l.Perm l') : ∀ {xs : List α}, All2 R xs l → ∃ ys, ys.Perm xs ∧ All2 R ys l' := by
  induction p with
  | nil => intro xs h; exact ⟨xs, .refl _, h⟩
  | cons b _ ih =>
    intro xs h
    cases h with
    | cons h1 h2 =>
      obtain ⟨ys, p, a⟩ := ih h2
      exact ⟨_ :: ys, p.cons _, .cons h1 a⟩
  | swap b c l =>
    intro xs h
    cases h with
    | cons h1 h2 => cases h2 with
      | cons h3 h4 => exact ⟨_, List.Perm.swap .., .cons h3 (.cons h1 h4)⟩
  | trans _ _ ih1 ih2 =>
    intro xs h
    obtain ⟨ys, p, a⟩ := ih1 h
    obtain ⟨zs, q, b⟩ := ih2 a
    exact ⟨zs, q.trans p, b⟩
theorem ev_str {w : World} {xs : List (List Nat)} {l : List (Int × Value)} (h : All2 (EV w) xs l) : All2 StrV xs (l.map (·.2)) := by
  induction h with
  | nil => exact .nil
  | cons h1 _ ih => exact .cons h1.2 ih
theorem drawn_perm {es : Array (Int × Value)} {places : List Nat} (hp : places.Perm (List.range es.size)) : (places.map fun p => es[p]?.getD (0, .none)).Perm es.toList := by
  refine (hp.map _).trans (List.Perm.of_eq ?_)
  apply List.ext_getElem
  · simp
  · intro i h1 h2
    simp at h1 h2
    simp [h1]
theorem iter {S : Addr} {xs : List (List Nat)} {Q : Value → Shared → Prop} (hS : SetP w s.heap S xs) (hz : xs.length ≤ 1000)
    (hQ : ∀ h' d I T ord, ItP w S I T ord 0 h' → S ≠ I → s.heap.get? I = none → (∀ b o, s.heap.get? b = some o → h'.get? b = some o) → (∃ ys, ys.Perm xs ∧ All2 StrV ys (ord.map (·.2))) → (T = S ∨ s.heap.get? T = none) → Q (.ref I) { s with heap := h', drawn := d }) :
    wpAny (model prog w) A (pyIter (.ref S)) Q E s := by
  have hT := hS.typeIs
  obtain ⟨es, ep, t, l, ho, hp, hA, hnd, hf, hled, hpl⟩ := hS
  have hlt := Heap.lt_size ho
  have hsz := lt_scan hp hA
  have ex : ∀ ord : List (Int × Value), ord.Perm es.toList → ∃ ys, ys.Perm xs ∧ All2 StrV ys (ord.map (·.2)) := fun ord ho' => by
    obtain ⟨ys, p, a⟩ := all2_perm (ho'.trans hp).symm hA
    exact ⟨ys, p, ev_str a⟩
  refine wpAny_pyIter_slot hT slot_set_iter (wpAny_call_entry slot_set_iter hT entry_set_iter ?_ (args_set_iter _))
  unfold Builtin.«frozenset.__iter__» Builtin.Frozenset.slot0 slotArgs
  simp only [List.isEmpty_nil, Bool.not_true, Bool.false_eq_true, ↓reduceIte, List.length_nil, bne_self_eq_false, pure_bind]
  unfold Builtin.Frozenset.addrOf Builtin.Frozenset.sizeOf
  refine wpAny_bind (wpAny_pure ?_)
  refine wpAny_bind (wpAny_bind (wpAny_setEntries_of ho rfl hf (wpAny_pure ?_)))
  rw [setDrawn_eq]
  refine wpAny_bind (wpAny_bind (wpAny_setState_of ho rfl hf ?_))
  dsimp only
  refine wpAny_bind (m := setsByText) (wpAny_bind (wpAny_askSetting (wpAny_pure ?_)))
  refine wpAny_pure ?_
  dsimp only
  rw [show (model prog w).w = w from rfl]
  by_cases c : (!w.params.followText "set-order" && (!t.plain && decide (es.size > 1))) = true
  · rw [if_pos c]
    refine wpAny_bind (wpAny_drawOrder _ _ (by simp) fun places d hpp => ?_)
    refine wpAny_bind (wpAny_newTuple ?_ (by rw [List.length_map, hpp.length_eq, List.length_range, hsz]; exact Nat.le_trans (show xs.length ≤ 100000 by (first | lia | omega)) szl))
    unfold setEpoch
    have ho1 : (s.heap.push { cls := .type "tuple", data := .seq (places.map fun i : Nat => rawInt i).toArray }).get? S = some { cls := .type "set", data := .set es ep t } := Heap.get?_push_of_some _ ho
    refine wpAny_bind (wpAny_bind (wpAny_setState_of ho1 rfl hf (wpAny_pure ?_)))
    refine wpAny_bind (wpAny_newObj_type ?_)
    refine wpAny_pure ⟨_, rfl, "set_iterator", _, ⟨_, Heap.get?_push_size _ rfl, rfl⟩, slot_seti_next.lookup, ?_⟩
    refine hQ _ d _ s.heap.objs.size (places.map fun p => es[p]?.getD (0, .none)) ⟨es, ep, t, _, Heap.get?_push_of_some _ ho1, hf, drawn_perm hpp, Heap.get?_push_size _ rfl, .drawn places (Heap.get?_push_of_some _ (Heap.get?_push_size _ rfl)) (by rw [Heap.size_push]; exact Nat.ne_of_lt (Nat.lt_succ_self _)) _ rfl hpp (fun k => ?_)⟩
      (by rw [Heap.size_push]; exact Nat.ne_of_lt (Nat.lt_succ_of_lt hlt)) (by rw [Heap.size_push]; cases hq : s.heap.get? (s.heap.objs.size + 1) with | none => rfl | some o => exact absurd (Heap.lt_size hq) (Nat.not_lt_of_le (Nat.le_succ _))) (fun b o e => Heap.get?_push_of_some _ (Heap.get?_push_of_some _ e)) (ex _ (drawn_perm hpp)) (.inr (by cases hq : s.heap.get? s.heap.objs.size with | none => rfl | some o => exact absurd (Heap.lt_size hq) (Nat.lt_irrefl _)))
    rw [List.getElem?_map]
    cases hq : places[k]? with
    | none => rfl
    | some p =>
      have hm : p ∈ List.range es.size := hpp.mem_iff.mp (List.mem_of_getElem? hq)
      rw [List.mem_range] at hm
      simp [hm]
  · rw [if_neg c]
    unfold setEpoch
    refine wpAny_bind (wpAny_bind (wpAny_setState_of ho rfl hf (wpAny_pure ?_)))
    refine wpAny_bind (wpAny_newObj_type ?_)
    refine wpAny_pure ⟨_, rfl, "set_iterator", _, ⟨_, Heap.get?_push_size _ rfl, rfl⟩, slot_seti_next.lookup, ?_⟩
    have common : ∀ ord : List (Int × Value), ord.Perm es.toList → ItP w S s.heap.objs.size S ord 0 (s.heap.push { cls := .type "set_iterator", data := .fields #[rawInt 0, rawInt 0, .ref S, rawInt es.size, rawInt ep] }) →
        Q (.ref s.heap.objs.size) { s with heap := s.heap.push { cls := .type "set_iterator", data := .fields #[rawInt 0, rawInt 0, .ref S, rawInt es.size, rawInt ep] } } := fun ord hop hit =>
      hQ _ s.drawn _ S ord hit (Nat.ne_of_lt hlt) (by cases hq : s.heap.get? s.heap.objs.size with | none => rfl | some o => exact absurd (Heap.lt_size hq) (Nat.lt_irrefl _)) (fun b o e => Heap.get?_push_of_some _ e) (ex _ hop) (.inl rfl)
    cases hx : w.params.followText "set-order" with
    | true => exact common _ (pickPerm _ _) ⟨es, ep, t, _, Heap.get?_push_of_some _ ho, hf, pickPerm _ _, Heap.get?_push_size _ rfl, .text hx rfl⟩
    | false =>
      have hz1 : es.size ≤ 1 := by
        rw [hx] at c
        by_cases hne : xs = []
        · rw [hsz, hne]; simp
        · rw [hpl hne] at c
          simpa using c
      exact common _ (.refl _) ⟨es, ep, t, _, Heap.get?_push_of_some _ ho, hf, .refl _, Heap.get?_push_size _ rfl, .led hx (by rw [hled, hx]; rfl) hz1 rfl 0 (.inl ⟨rfl, rfl⟩)⟩
end
end St

end
section
set_option Elab.async false
set_option maxRecDepth 100000
set_option maxHeartbeats 4000000
open PySem PySem.Calls PySem.Builtin PySem.Spec PyProof.Rows
namespace St
theorem args_seti_iter (a : Value) : argsOk "set_iterator.__iter__" ⟨[a], []⟩ := by unfold argsOk; kernel_rfl
theorem entry_seti_iter : entryFor table "set_iterator.__iter__" = some Builtin.«dict_keyiterator.__iter__» :=
  entryFor_alias (id' := "dict_keyiterator.__iter__") (by kernel_rfl) rfl (by decide +kernel) (by kernel_rfl)
section
variable {prog : Program} {w : World} {A : Around} {E : Value → Shared → Prop} {s : Shared}
theorem seti_self {I : Addr} {Q : Value → Shared → Prop} (hT : s.TypeIs (.ref I) "set_iterator") (h : Q (.ref I) s) : wpAny (model prog w) A (pyIter (.ref I)) Q E s := by
  refine wpAny_pyIter_slot hT slot_seti_iter (wpAny_call_entry slot_seti_iter hT entry_seti_iter ?_ (args_seti_iter _))
  show wpAny _ _ (ret (.ref I)) _ _ s
  exact wpAny_pure ⟨_, rfl, "set_iterator", _, hT, slot_seti_next.lookup, h⟩
theorem walk (hh : A.handled = none) {S I T : Addr} (ord : List (Int × Value)) (hSI : S ≠ I) :
    Walks prog w A I [I, S, T] [I] ord.length (fun i v => ∃ x, ord[i]? = some x ∧ v = x.2) (fun i h => ItP w S I T ord i h) where
  sub := fun b hb => by simp at hb; simp [hb]
  frame := fun _ _ _ st hk => st.keep hk
  item := fun i s Q E hi st hQ => by
    refine next_item hh hSI st (List.getElem?_eq_getElem hi) fun h' hit' hs' => ?_
    exact hQ _ h' s.toks ⟨_, List.getElem?_eq_getElem hi, rfl⟩ hit' fun b o hb e => hs'.extBut b o (fun h => hb (by simp [h])) e
  done := fun s Q E st hQ => next_done hh hSI st fun h' he' => hQ h' s.toks fun b o hb e => he' b o (fun h => hb (by simp [h])) e
  self := fun _ s _ _ st hQ => seti_self (s := s) st.typeIs hQ
theorem collect_set {S : Addr} {xs : List (List Nat)} {Q : List Value → Shared → Prop} (hh : A.handled = none) (hS : SetP w s.heap S xs) (hz : xs.length ≤ 1000)
    (hQ : ∀ h' d tk ys vs, ys.Perm xs → All2 StrV ys vs → (∀ b o, s.heap.get? b = some o → h'.get? b = some o) → Q vs { s with heap := h', drawn := d, toks := tk }) :
    wpAny (model prog w) A (collect (.ref S)) Q E s := by
  have hT := hS.typeIs
  have hSlt : S < s.heap.objs.size := by obtain ⟨_, _, _, _, ho, _⟩ := hS; exact Heap.lt_size ho
  unfold collect
  refine wpAny_bind (wpAny_runValue (codeAny_builtin F.entry_proto_collect ?_))
  rw [Around.under_plainId F.plain_proto_collect _]
  show wpAny _ A.in1 (newList [] >>= fun l => again (.builtin "list.__iadd__" ⟨[l, .ref S], []⟩)) _ _ s
  refine wpAny_bind (wpAny_newObj_type ?_)
  refine wpAny_pure ⟨plainId_quiet F.plain_list_iadd _, codeAny_builtin F.entry_list_iadd ?_⟩
  rw [Around.under_plainId F.plain_list_iadd _]
  have hS₁ : SetP w (s.heap.push { cls := .type "list", data := .seq ([] : List Value).toArray }) S xs := hS.keep fun o e => Heap.get?_push_of_some _ e
  have hD₁ : (s.heap.push { cls := .type "list", data := .seq ([] : List Value).toArray }).get? s.heap.objs.size = some { cls := .type "list", data := .seq ([] : List Value).toArray } := Heap.get?_push_size _ rfl
  have h1 : Builtin.List.listSameRef (.ref s.heap.objs.size) (.ref S) = false := by simp [Builtin.List.listSameRef, Nat.ne_of_gt hSlt]
  show wpAny _ A.in1 (Builtin.List.listExtendWith (.ref s.heap.objs.size) (.ref S) (.ref s.heap.objs.size)) _ _ _
  unfold Builtin.List.listExtendWith
  refine wpAny_bind (wpAny_typeOf (SetP.typeIs (s := { s with heap := s.heap.push { cls := .type "list", data := .seq ([] : List Value).toArray } }) hS₁) ?_)
  rw [if_neg (by rw [h1]; decide)]
  refine wpAny_bind (iter (s := { s with heap := s.heap.push { cls := .type "list", data := .seq ([] : List Value).toArray } }) hS₁ hz fun h₂ d₂ I T ord hit hSI hIn k₂ hys hTS => ?_)
  obtain ⟨ys, hyp, hya⟩ := hys
  have hS₂ : SetP w h₂ S xs := hS₁.keep fun o e => k₂ _ o e
  have hD₂ := k₂ _ _ hD₁
  have hT₂ : Shared.TypeIs { s with heap := h₂, drawn := d₂ } (.ref S) "set" := SetP.typeIs (s := { s with heap := h₂, drawn := d₂ }) hS₂
  refine wpAny_bind (wpAny_holding ?_)
  unfold Builtin.List.listLengthHint
  refine wpAny_bind (wpAny_specialOf hT₂ F.slot_set_len.lookup ?_)
  (generalize hid : ("set.__len__" : String) = id0; (fail_if_success (clear hid id0)); wp_delta; rw [show splitId id0 = some ("set", "__len__") from by subst hid; decide +kernel]; subst hid)
  refine wpAny_bind (wpAny_isInstance (b := true) hT₂ (by rw [isSubtype_type]; kernel_rfl) ?_)
  rw [if_neg (by decide)]
  dsimp only
  rw [if_pos (by decide +kernel)]
  refine wpAny_bind (wpAny_typeOf hT₂ ?_)
  refine wpAny_pure ?_
  rw [if_pos (by decide +kernel)]
  refine wpAny_bind (wpAny_rule ?_)
  unfold Builtin.List.listTouch
  refine wpAny_bind (wpAny_bind (listUpdate_at hD₂ rfl ?_ (Nat.zero_le _) (Nat.le_add_left _ _)))
  have hD₃ := get?_update_seq hD₂ (·.push .none)
  refine listUpdate_at hD₃ rfl ?_ (Nat.le_trans (show _ ≤ 100000 by decide) szl) (Nat.zero_le _)
  have hD₄ := get?_update_seq hD₃ (·.pop)
  have sb : Heap.SameBut s.heap.objs.size h₂ ((h₂.update s.heap.objs.size (Obj.mapSeq (·.push .none))).update s.heap.objs.size (Obj.mapSeq (·.pop))) := (Heap.SameBut.update ..).trans (Heap.SameBut.update ..)
  generalize (h₂.update s.heap.objs.size (Obj.mapSeq (·.push .none))).update s.heap.objs.size (Obj.mapSeq (·.pop)) = h₄ at sb hD₄ ⊢
  have hDI : s.heap.objs.size ≠ I := fun e => by rw [e, hIn] at hD₁; cases hD₁
  have hDT : s.heap.objs.size ≠ T := fun e => by
    rcases hTS with h | h
    · rw [h] at e; exact Nat.ne_of_gt hSlt e
    · rw [e, h] at hD₁; cases hD₁
  have hDf : s.heap.objs.size ∉ [I, S, T] := by
    simp only [List.mem_cons, List.not_mem_nil, or_false, not_or]
    exact ⟨hDI, Nat.ne_of_gt hSlt, hDT⟩
  have hn : ord.length ≤ sizeLine := by
    have := hya.len
    rw [List.length_map, hyp.length_eq] at this
    exact Nat.le_trans (show ord.length ≤ 100000 by (first | lia | omega)) szl
  have hit₄ : ItP w S I T ord 0 h₄ := hit.keep fun b hb o e => by rw [sb.2 b (fun h => hDf (h ▸ hb))]; exact e
  refine wpAny_pure ⟨plainId_quiet F.plain_extend_loop _, codeAny_extend_loopS (walk (A := A.in1) (by simp [hh]) ord hSI).toS hn _ hDf _ ord.length 0 _ _ _ rfl (Nat.zero_le _) hit₄ hD₄ (ItemsOf.nil _) fun s' acc' c' hm hS' hacc => ?_⟩
  show wpAny _ A (load s.heap.objs.size >>= _) _ _ s'
  refine wpAny_bind (wpAny_load hS' ?_)
  have ea : acc'.toList = ord.map (·.2) := by
    apply List.ext_getElem
    · rw [Array.length_toList, hacc.1, List.length_map]
    · intro i h1 h2
      obtain ⟨x, hx, hv⟩ := hacc.2 i (acc'.toList[i]) (by simp)
      rw [hv]
      simp only [List.getElem_map]
      obtain ⟨_, rfl⟩ := List.getElem?_eq_some_iff.mp hx
      rfl
  obtain ⟨h', g', d', tk', os'⟩ := s'
  have eg : g' = s.gens := hm.gens
  have ed : d' = d₂ := hm.drawn
  have eo : os' = s.os := hm.os
  subst eg; subst ed; subst eo
  refine wpAny_pure ?_
  show Q acc'.toList _
  rw [ea]
  refine hQ h' _ tk' ys _ hyp hya fun b o e => ?_
  have hbD : b ≠ s.heap.objs.size := Nat.ne_of_lt (Heap.lt_size e)
  have e1 := Heap.get?_push_of_some { cls := .type "list", data := .seq ([] : List Value).toArray } e
  have hbI : b ≠ I := fun x => by rw [x, hIn] at e1; cases e1
  have e2 := k₂ b o e1
  refine hm.heap b o (by simp only [List.mem_cons, List.not_mem_nil, or_false, not_or]; exact ⟨hbD, hbI⟩) ?_
  show h₄.get? b = some o
  rw [sb.2 b hbD]; exact e2
theorem rise : ∀ (l : List PySem.Str) (p : PySem.Str), risingS p l = true → ((p :: l).map (·.cps.toList)).Nodup → ((p :: l).map (·.cps.toList)).Pairwise (· < ·)
  | [], p, _, _ => List.pairwise_singleton ..
  | x :: r, p, h, hn => by
    have h' : (!ltCps x.cps.toList p.cps.toList && risingS x r) = true := h
    rw [Bool.and_eq_true, ltCps_eq, Bool.not_eq_true', decide_eq_false_iff_not] at h'
    rw [List.map_cons, List.nodup_cons] at hn
    have ih := rise r x h'.2 hn.2
    have hpx : p.cps.toList < x.cps.toList := by
      apply Classical.byContradiction
      intro h2
      refine hn.1 ?_
      rw [List.le_antisymm (show p.cps.toList ≤ x.cps.toList from h'.1) (show x.cps.toList ≤ p.cps.toList from h2)]
      exact .head _
    rw [List.map_cons, List.pairwise_cons]
    refine ⟨fun y hy => ?_, ih⟩
    rw [List.map_cons] at hy
    rcases List.mem_cons.mp hy with rfl | hy
    · exact hpx
    · rw [List.map_cons, List.pairwise_cons] at ih
      exact List.lt_trans hpx (ih.1 y hy)
theorem rise0 : ∀ (l : List PySem.Str), sortedS l = true → (l.map (·.cps.toList)).Nodup → (l.map (·.cps.toList)).Pairwise (· < ·)
  | [], _, _ => .nil
  | x :: r, h, hn => rise r x h hn
theorem strsAre {xs : List (List Nat)} {vs : List Value} (h : All2 StrV xs vs) : StrsAre vs (xs.map mk) := by
  induction h with
  | nil => exact .nil
  | cons h1 _ ih =>
    obtain ⟨t, rfl⟩ := h1
    exact .cons _ t ih
theorem all2_of_strs : ∀ {vs : List Value} {ss : List PySem.Str}, StrsAre vs ss → All2 StrV (ss.map (·.cps.toList)) vs
  | _, _, .nil => .nil
  | _, _, .cons y t h => .cons ⟨t, rfl⟩ (all2_of_strs h)
theorem map_mk (xs : List (List Nat)) : (xs.map mk).map (·.cps.toList) = xs := by
  rw [List.map_map]
  exact (List.map_congr_left fun x _ => by simp).trans (List.map_id _)
theorem SetP.nodup {w : World} {h : Heap} {a : Addr} {xs : List (List Nat)} (S : SetP w h a xs) : xs.Nodup := by
  obtain ⟨_, _, _, _, _, _, _, h⟩ := S
  exact h
theorem sorted_set {S : Addr} {xs : List (List Nat)} {Q : Value → Shared → Prop} (hh : A.handled = none) (hS : SetP w s.heap S xs) (hz : xs.length < 64)
    (h : ∀ h' d tk a ls (lv : List Value) e, ls.Perm xs → All2 StrV ls lv → ls.Pairwise (· < ·) → (∀ b o, s.heap.get? b = some o → h'.get? b = some o) → s.heap.get? a = none → h'.get? a = some (seqObj "list" lv.toArray e) → Q (.ref a) { s with heap := h', drawn := d, toks := tk }) :
    wpAny (model prog w) A (call (.builtin "sorted") [.ref S]) Q E s := by
  refine Calls.call_function_entry kind_sorted plain_sorted entry_sorted (args_sorted1 _) ?_
  unfold Builtin.«sorted»
  refine wpAny_bind (m := checkCount "sorted" 1 1 _) (wpAny_pure ?_)
  refine wpAny_bind (collect_set (by simp [hh]) hS (by (first | lia | omega)) fun h₁ d tk ys vs hp ha k => ?_)
  have hvl : vs.length < 64 := by rw [← ha.len, hp.length_eq]; exact hz
  refine wpAny_bind (wpAny_newList ?_)
  have hoL : (h₁.push (seqObj "list" vs.toArray 0)).get? h₁.objs.size = some (seqObj "list" vs.toArray 0) := Heap.get?_push_size _ rfl
  have hsa := strsAre ha
  refine wpAny_bind (wpAny_holding (wpAny_call_entry slot_list_sort ⟨_, hoL, rfl⟩ entry_list_sort (list_sort_treeK strKind_oneLt hoL hsa.keysOf (fun v₁ v₂ rest e => keyKind_strs (by rw [← e]; exact hsa)) hvl fun st' a1 a2 => ⟨_, rfl, ?_⟩) (args_list_sort _)))
  obtain ⟨ss', b1, b2, b3⟩ := sorted_out_str hsa a1 a2
  have hle : s.heap.get? h₁.objs.size = none := by
    cases hq : s.heap.get? h₁.objs.size with
    | none => rfl
    | some o => exact absurd (Heap.lt_size (k _ _ hq)) (Nat.lt_irrefl _)
  refine wpAny_pure ⟨_, rfl, ?_⟩
  obtain ⟨e, he⟩ := sortedHeap_at (vs := vs) (out := (arrOf st').map (·.2)) hoL
  have hperm : (ss'.map (·.cps.toList)).Perm xs := by
    have := b2.map (·.cps.toList)
    rw [map_mk] at this
    exact this.trans hp
  refine h _ d tk h₁.objs.size (ss'.map (·.cps.toList)) ((arrOf st').map (·.2)).toList e hperm (all2_of_strs b1) (rise0 _ b3 (hperm.nodup_iff.mpr hS.nodup)) (fun b o g => ?_) hle he
  have g1 := k b o g
  rw [sortedHeap_old (Nat.ne_of_lt (Heap.lt_size g1)) (by rw [Heap.size_push]; exact Nat.lt_succ_of_lt (Heap.lt_size g1))]
  exact Heap.get?_push_of_some _ g1
variable {h₀ : Heap} {L : Addr} {m : PySem.Str → Option Value} {news : List (Addr × Obj)}
theorem r_set {l : Addr} {vs : List Value} {xs : List (List Nat)} {Q : Value → Shared → Prop} (F : Fr h₀ L s.heap m) (N : News h₀ L s.heap news) (hh : A.handled = none) (hl : s.heap.IsList l vs.toArray) (hx : All2 StrV xs vs) (hb : xs.length ≤ 1000)
    (h : ∀ h' tk S o, Fr h₀ L h' m → News h₀ L h' ((S, o) :: news) → SetP w h' S (fm xs) → Q (.ref S) { s with heap := h', toks := tk }) :
    wpAny (model prog w) A (call (.type "set") [.ref l]) Q E s := by
  refine make hh hl hx hb fun h' tk hS hk => ?_
  obtain ⟨oL, _, _, hL, _⟩ := F.ns
  have hLlt : L < s.heap.objs.size := Heap.lt_size hL
  obtain ⟨es, ep, t, l', ho, r⟩ := id hS
  refine h h' tk _ { cls := .type "set", data := .set es ep t } ⟨F.ns.at' fun o' e => hk L o' hLlt e, fun b o' e => hk b o' (Heap.lt_size (F.keep b o' e)) (F.keep b o' e), F.above⟩ (fun p hp => ?_) hS
  rcases List.mem_cons.mp hp with rfl | hp
  · refine ⟨ho, Nat.ne_of_gt hLlt, ?_⟩
    cases hq : h₀.get? s.heap.objs.size with
    | none => rfl
    | some o' => exact absurd (Heap.lt_size (F.keep _ _ hq)) (Nat.lt_irrefl _)
  · exact ⟨hk _ _ (Heap.lt_size (N p hp).1) (N p hp).1, (N p hp).2.1, (N p hp).2.2⟩
theorem r_sorted {S : Addr} {xs : List (List Nat)} {Q : Value → Shared → Prop} (F : Fr h₀ L s.heap m) (N : News h₀ L s.heap news) (hh : A.handled = none) (hS : SetP w s.heap S xs) (hz : xs.length < 64)
    (h : ∀ h' d tk a ls (lv : List Value) e, Fr h₀ L h' m → News h₀ L h' ((a, PySem.W.listOf lv.toArray e) :: news) → (∀ q ∈ news, q.1 ≠ a) → ls.Perm xs → All2 StrV ls lv → ls.Pairwise (· < ·) → Q (.ref a) { s with heap := h', drawn := d, toks := tk }) :
    wpAny (model prog w) A (call (.builtin "sorted") [.ref S]) Q E s := by
  refine sorted_set hh hS hz fun h' d tk a ls lv e p1 p2 p3 k ha g => ?_
  obtain ⟨oL, _, _, hL, _⟩ := F.ns
  have hne : ∀ b o, s.heap.get? b = some o → b ≠ a := fun b o e' hb => by rw [hb, ha] at e'; cases e'
  refine h h' d tk a ls lv e (F.kept k) (fun q hq => ?_) (fun q hq => hne _ _ (N q hq).1) p1 p2 p3
  rcases List.mem_cons.mp hq with rfl | hq
  · refine ⟨g, (hne _ _ hL).symm, ?_⟩
    cases hx : h₀.get? a with
    | none => rfl
    | some o' => exact absurd rfl (hne _ _ (F.keep _ _ hx))
  · exact ⟨k _ _ (N q hq).1, (N q hq).2⟩
end
end St

end
section
set_option Elab.async false
set_option maxRecDepth 100000
set_option maxHeartbeats 2000000
open PySem PySem.W PySem.Calls PySem.Builtin PyProof.Rows
section
variable {A : Around} {base g g' h h' : Heap} {outer : List Env} {L : Addr} {m mg mb : PySem.Str → Option Value} {env : Env} {news : List (Addr × Obj)} {w : World} {fs : List Addr}
theorem ne97 (n97 : g.get? 97 = none) {b : Addr} {o : Obj} (e : g.get? b = some o) : b ≠ 97 := fun q => by rw [q, n97] at e; cases e
theorem belowG (B : Below A base outer g) (n97 : g.get? 97 = none) (F : Fr g L h m) (BT : Tab h) (hk : env.scope.kind ≠ .module) (hf : env.frame = some L) : Below (A.deeper env) base (env :: outer) (hid h) := by
  have st : base.StaysIn (hid h) := fun b o e => hid_get (F.keep _ _ (B.stays b o e)) (ne97 n97 (B.stays b o e))
  have hnew : base.get? L = none := by
    cases hq : base.get? L with
    | none => rfl
    | some o => exact absurd (Nat.lt_of_lt_of_le (Heap.lt_size (B.stays L o hq)) F.above) (Nat.lt_irrefl _)
  exact ⟨Around.frames_deeper B.stack, st, .cons hk hf (hid_ns BT F.ns) hnew (B.frames.of_keeps fun b o e hn => ⟨o, hid_get (F.keep b o e) (ne97 n97 e), rfl⟩)⟩
theorem dictsG (D : KtsDicts (fsOf outer) g) (n97 : g.get? 97 = none) (F : Fr g L h m) (BT : Tab h) (hf : env.frame = some L) : KtsDicts (fsOf (env :: outer)) (hid h) := fun b hb => by
  obtain ⟨e0, he, hfb⟩ := List.mem_filterMap.mp hb
  rcases List.mem_cons.mp he with rfl | he
  · rw [hf] at hfb; cases hfb
    obtain ⟨o, es, n, ho, hd, _⟩ := F.ns
    exact ⟨o, es, n, hid_get ho (dict_ne97 BT ho hd), hd⟩
  · obtain ⟨o, es, n, ho, hd⟩ := D b (List.mem_filterMap.mpr ⟨e0, he, hfb⟩)
    exact ⟨o, es, n, hid_get (F.keep _ _ ho) (ne97 n97 ho), hd⟩
theorem belowT (B : Below A base outer g) (T : KtsTurn (fsOf outer) g g') : Below A base outer g' := by
  refine ⟨B.stack, fun b o e => T.other _ _ (B.stays b o e) fun q => ?_, B.frames.of_keeps fun b o e hn => ?_⟩
  · obtain ⟨env, he, hf⟩ := List.mem_filterMap.mp q
    have := (B.frames.mem (List.mem_filterMap.mpr ⟨env, he, hf⟩)).1
    rw [this] at e; cases e
  · obtain ⟨sl, hs⟩ := T.up e
    exact ⟨_, hs, rfl⟩
theorem dictsT (D : KtsDicts fs g) (T : KtsTurn fs g g') : KtsDicts fs g' := fun b hb => by
  obtain ⟨o, es, n, ho, hd⟩ := D b hb
  obtain ⟨sl, hs⟩ := T.up ho
  exact ⟨_, es, n, hs, hd⟩
theorem listT {l : Addr} {vs : Array Value} (T : KtsTurn fs g g') (hl : g.IsList l vs) : g'.IsList l vs := by
  obtain ⟨o, h1, h2, n, h3⟩ := hl
  obtain ⟨sl, hs⟩ := T.up h1
  exact ⟨_, hs, h2, n, h3⟩
theorem afterG {ps ps' : Array Value} {gg : Array Value → List (Addr × Obj)} (n97 : g.get? 97 = none) (F : Fr g L h m) (N : News g L h news) (u : Up ps news gg) (D : KtsDicts (fsOf outer) g) (R : SameS (97 :: L :: fsOf outer) (hid h) h') (ht : h'.get? 97 = some (tabObj ps')) :
    ∃ g', KtsTurn (fsOf outer) g g' ∧ Fr g' L h' m ∧ News g' L h' (gg ps') := by
  have hL : g.get? L = none := kts_self F
  have hL97 : L ≠ 97 := (N _ u.mem).2.1.symm
  have hLf : L ∉ fsOf outer := fun q => by obtain ⟨o, _, _, ho, _⟩ := D L q; rw [hL] at ho; cases ho
  have T := kts_turn_at (fs := fsOf outer) (g := g) (h := h') (fun b hb => by obtain ⟨o, _, _, ho, _⟩ := D b hb; exact ⟨o, ho⟩)
    (fun b o e hb => R.other _ _ (hid_get (F.keep _ _ e) (ne97 n97 e)) fun q => by
      rcases List.mem_cons.mp q with q | q
      · exact ne97 n97 e q
      · rcases List.mem_cons.mp q with rfl | q
        · rw [hL] at e; cases e
        · exact hb q)
    (fun b o e hb => R.frame _ _ (hid_get (F.keep _ _ e) (ne97 n97 e)) (.tail _ (.tail _ hb)))
  refine ⟨_, T.1, ⟨?_, T.2, ?_⟩, fun p hp => ?_⟩
  · obtain ⟨o, es, n, ho, hd, r⟩ := F.ns
    obtain ⟨sl, hs⟩ := R.frame _ _ (hid_get ho hL97) (.tail _ (.head _))
    exact ⟨_, es, n, hs, hd, r⟩
  · rw [T.1.size]; exact F.above
  · rcases u.from hp with rfl | ⟨hp, hn⟩
    · exact ⟨ht, (N _ u.mem).2.1, T.1.none_ _ n97⟩
    · refine ⟨?_, (N p hp).2.1, T.1.none_ _ (N p hp).2.2⟩
      have h97 : p.1 ≠ 97 := fun q => by
        have e := (N p hp).1
        rw [q, (N _ u.mem).1] at e
        exact hn ps (Option.some.inj e).symm
      refine R.other _ _ (hid_get (N p hp).1 h97) fun q => ?_
      rcases List.mem_cons.mp q with q | q
      · exact h97 q
      · rcases List.mem_cons.mp q with q | q
        · exact (N p hp).2.1 q
        · obtain ⟨o, _, _, ho, _⟩ := D _ q
          rw [(N p hp).2.2] at ho; cases ho
end
section
variable {prog : Program} {w : World} {A : Around} {s : Shared} {env : Env} {h₀ : Heap} {m : PySem.Str → Option Value} {news : List (Addr × Obj)} {Qf : Flow → Shared → Prop} {fs : List Addr}
inductive ForMidS (fs : List Addr) (h₀ : Heap) (L : Addr) (f : Heap → Nat → Shared) (I : Addr) (io : Obj) (J : (PySem.Str → Option Value) → List (Addr × Obj) → Prop) (s₃ : Shared) : Prop
  | is (g h' : Heap) (tk : Nat) (m₂ : PySem.Str → Option Value) (news₂ : List (Addr × Obj)) (T : KtsTurn fs h₀ g) (e : s₃ = f h' tk) (F : Fr g L h' m₂) (N : News g L h' ((I, io) :: news₂)) (j : J m₂ news₂) : ForMidS fs h₀ L f I io J s₃
inductive ForInvS (fs : List Addr) (h₀ : Heap) (L : Addr) (s : Shared) (n : Nat) (I l : Addr) (J : Nat → (PySem.Str → Option Value) → List (Addr × Obj) → Prop) (k : Nat) (s' : Shared) : Prop
  | is (g h' : Heap) (tk : Nat) (m' : PySem.Str → Option Value) (news' : List (Addr × Obj)) (i : Nat) (io : Obj) (T : KtsTurn fs h₀ g) (e : s' = { s with heap := h', toks := tk }) (hi : i ≤ n) (hk : k = n + 1 - i) (hc : io.cls = .type "list_iterator") (hd : io.data = .fields #[.ref l, .int i 0]) (F : Fr g L h' m') (N : News g L h' ((I, io) :: news')) (j : J i m' news') : ForInvS fs h₀ L s n I l J k s'
/-- what stands after a turn in which a callee may have caught -/
noncomputable def ForStepS (fs : List Addr) (h₀ : Heap) (L : Addr) (s : Shared) (I : Addr) (io : Obj) (J : (PySem.Str → Option Value) → List (Addr × Obj) → Prop) (Qf : Flow → Shared → Prop) (f : Flow) (s₃ : Shared) : Prop :=
  match f with
  | .next | .cont => ForMidS fs h₀ L (fun h tk => { s with heap := h, toks := tk }) I io J s₃
  | .brk => Qf .next s₃
  | .ret v => Qf (.ret v) s₃
theorem endFS {L I : Addr} {io : Obj} {J : (PySem.Str → Option Value) → List (Addr × Obj) → Prop} {g h' : Heap} {tk : Nat} (T : KtsTurn fs h₀ g) (F : Fr g L h' m) (N : News g L h' ((I, io) :: news)) (hJ : J m news) : ForStepS fs h₀ L s I io J Qf .next { s with heap := h', toks := tk } :=
  ⟨g, h', tk, m, news, T, rfl, F, N, hJ⟩
theorem for_listS {x : PySem.Str} {body : List Stmt} {l : Addr} {vs : List Value} (J : Addr → Nat → (PySem.Str → Option Value) → List (Addr × Obj) → Prop)
    (hl : s.heap.IsList l vs.toArray) (F : Fr h₀ env.locals s.heap m) (N : News h₀ env.locals s.heap news) (hh : A.handled = none)
    (hx : env.kindOf x = some .local) (hp : (env.scope.kind == .class || (env.scope.kind == .module && env.locals != env.globals)) = false)
    (hJ : ∀ I, (∀ q ∈ news, q.1 < I) → J I 0 m news)
    (hI : ∀ I i m news, J I i m news → ∀ q ∈ news, q.1 ≠ I)
    (hL : ∀ g I i m news h, KtsTurn fs h₀ g → J I i m news → Fr g env.locals h m → News g env.locals h news → h.IsList l vs.toArray)
    (turn : ∀ g I io i v m₁ news₁ h₁ tk₁, KtsTurn fs h₀ g → io.cls = .type "list_iterator" → vs[i]? = some v → J I i m₁ news₁ → Fr g env.locals h₁ (fun y => if y = x then some v else m₁ y) → News g env.locals h₁ ((I, io) :: news₁) →
      wpAny (model prog w) A (execs body env) (ForStepS fs h₀ env.locals s I io (J I (i + 1)) Qf) (fun _ _ => False) { s with heap := h₁, toks := tk₁ })
    (done : ∀ g I m₁ news₁ h₁ tk₁, KtsTurn fs h₀ g → J I vs.length m₁ news₁ → Fr g env.locals h₁ m₁ → News g env.locals h₁ news₁ → Qf .next { s with heap := h₁, toks := tk₁ }) :
    wpAny (model prog w) A (pyIter (.ref l)) (fun it s₂ => MyFor prog w A env x body Qf it s₂) (fun _ _ => False) s := by
  refine wpAny_pyIter_list hl ?_
  generalize hIa : s.heap.objs.size = I
  let io0 : Obj := { cls := .type "list_iterator", data := .fields #[.ref l, .int 0 0] }
  have N0 : News h₀ env.locals (s.heap.push io0) ((I, io0) :: news) := hIa ▸ N.push F io0
  refine ⟨I, ForInvS fs h₀ env.locals s vs.length I l (J I),
    vs.length + 1, rfl, ⟨h₀, _, s.toks, m, news, 0, io0, .refl, rfl, Nat.zero_le _, rfl, rfl, rfl, F.push _, N0, hJ I fun q hq => hIa ▸ Heap.lt_size (N q hq).1⟩, ?_⟩
  rintro k s' ⟨g, h', tk, m', news', i, io, hT, rfl, hi, rfl, hc, hd, F', N', hj⟩
  have hio := N' (I, io) (.head _)
  have hit : h'.IsListIter I l i := ⟨io, hio.1, hc, hd⟩
  have hls := hL g I i m' news' h' hT hj F' (newsSub N' fun p hp => .tail _ hp)
  by_cases hlt : i < vs.length
  · refine wpAny_pyNext_list_item (x := vs[i]) hit hls (by simp [hlt]) fun h₁ hit₁ hs₁ => ?_
    dsimp only
    obtain ⟨io₁, g1, g2, g3⟩ := hit₁
    have F₁ : Fr g env.locals h₁ m' := ⟨F'.ns.extBut hs₁.extBut hio.2.1.symm, fun b o e => (hs₁.2 b fun q => by rw [q, hio.2.2] at e; cases e).trans (F'.keep b o e), F'.above⟩
    have N₁ : News g env.locals h₁ ((I, io₁) :: news') := fun p hp => by
      rcases List.mem_cons.mp hp with rfl | hp
      · exact ⟨g1, hio.2⟩
      · exact ⟨(hs₁.2 p.1 (hI _ _ _ _ hj p hp)).trans (N' p (.tail _ hp)).1, (N' p (.tail _ hp)).2⟩
    refine wpAny_storeName_local hx F₁.ns (fun h₂ hn₂ hs₂ => ?_) hp
    refine wpAny_mono (turn g I io₁ i vs[i] m' news' h₂ _ hT g2 (by simp [hlt]) hj (F₁.set hn₂ hs₂) (N₁.set hs₂)) (fun f s₃ h₃ => ?_) fun _ _ e => e
    have fin : ForMidS fs h₀ env.locals (fun h tk => { s with heap := h, toks := tk }) I io₁ (J I (i + 1)) s₃ → ∃ k', k' < vs.length + 1 - i ∧ ForInvS fs h₀ env.locals s vs.length I l (J I) k' s₃ := by
      rintro ⟨g', h', tk, m₂, news₂, T₃, e, F₃, N₃, hj₃⟩
      exact ⟨vs.length + 1 - (i + 1), stepLt (Nat.le_of_lt (by assumption)), g', h', tk, m₂, news₂, i + 1, io₁, T₃, e, hlt, rfl, g2, g3, F₃, N₃, hj₃⟩
    cases f with
    | next => exact fin h₃
    | cont => exact fin h₃
    | brk => exact h₃
    | ret v => exact h₃
  · have hin : i = vs.length := by (first | lia | omega)
    subst hin
    refine wpAny_pyNext_list_end hh hit hls (by simp) fun h₁ hx₁ => ?_
    dsimp only
    have F₁ : Fr g env.locals h₁ m' := ⟨F'.ns.extBut hx₁ hio.2.1.symm, fun b o e => hx₁ b o (fun q => by rw [q, hio.2.2] at e; cases e) (F'.keep b o e), F'.above⟩
    exact done g I m' news' h₁ tk hT hj F₁ fun p hp => ⟨hx₁ _ _ (hI _ _ _ _ hj p hp) (N' p (.tail _ hp)).1, (N' p (.tail _ hp)).2⟩
end

end
theorem walk_reset_F16 {M : Model} {A : Around} {E : Value → Shared → Prop} {s : Shared} {Q : Bool → Shared → Prop} (h : Q true s) : wpAny M A (truthy (.bool true)) Q E s := by first | (walk1; exact h) | exact wpAny_truthy_bool h
section
set_option maxRecDepth 100000
set_option maxHeartbeats 8000000
set_option linter.unusedVariables false
set_option linter.unusedSimpArgs false
open PySem PySem.W PySem.Calls PyProof.Rows
open St in
noncomputable def behindL (ls : List (List Nat)) : List (List Nat) := ls.filterMap fun h => if decide (46 ∈ h) = true then some (h.drop (h.idxOf 46 + 1)) else none
noncomputable def knownL (ls rs : List (List Nat)) : List (List Nat) := (ls ++ behindL ls ++ rs ++ rs.map (List.drop 1)).map low
/-- what the plain law gives -/
structure LawOk (hs rs : List (List Nat)) : Prop where
  names : ∀ ls ks, ls.Perm (St.fm hs) → ls.Pairwise (· < ·) → ks.Perm (St.fm (knownL ls rs)) → ks.Pairwise (· < ·) → ∀ n ∈ ks, hdn n = decide (n ∈ namedL ks) ∧ (!Rx.ipv4 (mk n)) = !decide (n ∈ barredL ks)
  reach : ∀ ls ks, ls.Perm (St.fm hs) → ls.Pairwise (· < ·) → ks.Perm (St.fm (knownL ls rs)) → ks.Pairwise (· < ·) → ∀ n ∈ ls ++ behindL ls, reachL n = toldL (ls ++ behindL ls) (namedL ks) n ∧ (n ∈ farL (ls ++ behindL ls) → 46 ∈ n)
  wide : ∀ ls ks, ls.Perm (St.fm hs) → ls.Pairwise (· < ·) → ks.Perm (St.fm (knownL ls rs)) → ks.Pairwise (· < ·) → ∀ r ∈ rs, ∀ h ∈ ls, dmatch h r = decide (low h ∈ kept (ownP (low r)) (ls.map low) ++ wideL r (ls.map low) (namedL ks))
  ends : ∀ ls ks, ls.Perm (St.fm hs) → ls.Pairwise (· < ·) → ks.Perm (St.fm (knownL ls rs)) → ks.Pairwise (· < ·) → ∀ r ∈ rs, ∀ h ∈ ls, umatch h r = decide (low h ∈ kept (ownP (low r)) (ls.map low) ++ endsL' r (ls.map low) (barredL ks))
theorem behind_len (ls : List (List Nat)) : (behindL ls).length ≤ ls.length := List.length_filterMap_le _ _
section
variable {prog : Program} {w : World} {A : Around} {E : Value → Shared → Prop} {s : Shared} {Q : Value → Shared → Prop} {mg mb : Str → Option Value} {l k : List Nat} {t u : Tok}
local macro_rules | `(tactic| walk_at "my steps") => stepsOf ([blT ``PySem.Value.type "set", blT ``PySem.Value.builtin "sorted", refT 157, refT 164, refT 169] ++ stops2)
theorem c_lawright {outer : List Env} {base : Heap} {p : Program} {loose : List Str} {mean0 : ExcName → Option Value} {Hs Rs : Addr} {hs rs : List (List Nat)} {hv rv : List Value}
    (B : Below A base outer (hid s.heap)) (D : KtsDicts (fsOf outer) (hid s.heap)) (XB : (Mine.hd.heap_1 w.params).In base) (TB : Top p loose mean0 mg mb base)
    (W0 : Wd w mg mb s.heap) (hd : A.depth + 6 < recursionLimit) (hh : A.handled = none) (hun : A.units + 20 < cLine)
    (hH : s.heap.IsList Hs hv.toArray) (hR : s.heap.IsList Rs rv.toArray) (hhv : All2 StrV hs hv) (hrv : All2 StrV rs rv)
    (hz : hs.length ≤ 10) (hrz : rs.length ≤ 10) (hkz : ∀ n ∈ hs, n.length ≤ 100) (hasc : ∀ n ∈ hs, Asc n) (hrl : ∀ r ∈ rs, r.length ≤ 100 ∧ Asc r ∧ Cok (low r))
    (ok : LawOk hs rs)
    (hQ : ∀ h' d' tk', SameS (97 :: fsOf outer) (hid s.heap) h' → Wd w mg mb h' → Q (.bool true) { s with heap := h', drawn := d', toks := tk' }) :
    wpAny (model prog w) A (call (.ref 174) [.ref Hs, .ref Rs]) Q E s := by
  obtain ⟨ah, adp, afr, agd, aun⟩ := A
  dsimp only at hh hd hun
  subst hh
  obtain ⟨X, ⟨_, _, mean, T⟩, BT⟩ := id W0
  have hd' : adp < recursionLimit := by (first | lia | omega)
  have up : ∀ {l : Addr} {vs : List Value}, s.heap.IsList l vs.toArray → (hid s.heap).IsList l vs.toArray := fun ⟨o, h1, h2, h3⟩ => ⟨o, hid_cls BT h1 (.inl (by rw [h2]; nofun)), h2, h3⟩
  have hH' := up hH
  have hR' := up hR
  k_dflt (refine' enter7 (binds := [(Str.ofString "hosts", .ref Hs), (Str.ofString "rules", .ref Rs)]) X T BT ?k6 ?k7 hd' ?k9 ?kB ?c5 ?c2 ?c3 ?c4 ?_; walk_at "my enter"; intro L h₁ ps X7 T7 okp F N; walk_at "my fold")
  clear X T BT
  obtain ⟨_, T7⟩ := T7
  walk_at "my steps"
  refine St.r_set (by assumption) (by assumption) rfl (hH'.at fun o e => Fr.keep (by assumption) _ o e) hhv (by (first | lia | omega)) ?_
  intro h₂ tk₂ S oS F2 N2 hS
  have hndl : (St.fm hs).Nodup := hS.nodup
  have hz2 := St.len_fm hs
  walk_at "my steps"
  refine St.r_sorted (by assumption) (by assumption) rfl hS (by (first | lia | omega)) ?_
  intro h₃ d₃ tk₃ ll ls lv e₃ F3 N3 ne3 p1 p2 p3
  clear F2 N2
  replace N3 : News (hid s.heap) L h₃ [(ll, PySem.W.listOf lv.toArray e₃), (97, tabObj ps)] := newsSub N3 (by walk_at "msub")
  have n1 : 97 ≠ ll := ne3 (97, tabObj ps) (by k_mem)
  clear ne3 hS
  have hlz : ls.length ≤ 10 := by rw [p1.length_eq]; (first | lia | omega)
  have hlm : ∀ n ∈ ls, n ∈ hs := fun n hn => St.mem_fm.mp (p1.mem_iff.mp hn)
  have hlvz : lv.length ≤ 10 := by rw [← p2.len]; exact hlz
  have hrvz : rv.length ≤ 10 := by rw [← hrv.len]; exact hrz
  walk_at "my steps"
  walk_at "my lcA"
  (rename Fr _ _ _ _ => Fz); (rename News _ _ _ _ => Nz)
  refine lc_any ls (fun h => if decide (46 ∈ h) = true then some (h.drop (h.idxOf 46 + 1)) else none) StrV StrV (iter_list (by rfl) (Li.led Nz (by k_mem)) Fz Nz (.inr (by simp))) p2.len (fun i v h => p2.back h) (by (first | lia | omega)) (by rfl) (by rfl) ?_ ?_
  · intro C D2 oL I2 io i h v ys k2 mc h2 tk2 hn1 hv1 hmc F N
    show wpAny _ _ (isTrue _ _ _) _ _ _
    obtain ⟨tn, rfl⟩ := hv1
    have hmem : h ∈ hs := hlm h (List.mem_of_getElem? hn1)
    have hl100 := hkz h hmem
    have ha128 := hasc h hmem
    by_cases q : 46 ∈ h
    · have q' : decide (46 ∈ h) = true := decide_eq_true q
      walk_at "my steps"
      (rename Fr _ _ _ _ => Fz); (rename News _ _ _ _ => Nz)
      exact endY Fz Nz (if_pos q') ⟨_, rfl⟩
    · have q' : decide (46 ∈ h) = false := decide_eq_false q
      walk_at "my steps"
      exact endC F N (if_neg (by rw [q']; decide))
  · intro bl h4 tk4 bv k4 F N oD4 hB4
    have hbv : All2 StrV (behindL ls) bv := hB4
    replace F : Fr (hid s.heap) L h4 _ := F
    replace N : News (hid s.heap) L h4 _ := N
    clear Fz Nz hB4
    walk_at "my steps"
    have hsm : ∀ n ∈ ls ++ behindL ls ++ rs ++ rs.map (List.drop 1), n.length ≤ 100 ∧ Asc n := fun n hn => by
      rcases List.mem_append.mp hn with hn | hn
      · rcases List.mem_append.mp hn with hn | hn
        · rcases List.mem_append.mp hn with hn | hn
          · exact ⟨hkz n (hlm n hn), hasc n (hlm n hn)⟩
          · obtain ⟨h, hh, e⟩ := List.mem_filterMap.mp hn
            split at e
            · cases e
              exact ⟨Nat.le_trans (by rw [List.length_drop]; exact Nat.sub_le _ _) (hkz h (hlm h hh)), fun c hc => hasc h (hlm h hh) c (List.mem_of_mem_drop hc)⟩
            · cases e
        · exact ⟨(hrl n hn).1, (hrl n hn).2.1⟩
      · obtain ⟨r, hr, rfl⟩ := List.mem_map.mp hn
        exact ⟨Nat.le_trans (by rw [List.length_drop]; exact Nat.sub_le _ _) (hrl r hr).1, fun c hc => (hrl r hr).2.1 c (List.mem_of_mem_drop hc)⟩
    have hbz : bv.length ≤ 10 := by rw [← hbv.len]; exact Nat.le_trans (behind_len _) hlz
    walk_at "my lcA"
    walk_at "my steps"
    walk_at "my lc"
    refine lc_any rs (fun r => some (r.drop 1)) StrV StrV (iter_list (by rfl) (hR'.at fun o e => Fr.keep (by assumption) _ o e) (by assumption) (by assumption) (.inl (by obtain ⟨o, e, _⟩ := hR'; exact ⟨o, e⟩))) hrv.len (fun i v h => hrv.back h) (by (first | lia | omega)) (by rfl) (by rfl) ?_ ?_
    · intro C D2 oL I2 io i r v ys k2 mc h2 tk2 hn1 hv1 hmc F N
      show wpAny _ _ (eval _ _) _ _ _
      obtain ⟨tn, rfl⟩ := hv1
      have hrl1 := (hrl r (List.mem_of_getElem? hn1)).1
      walk_at "my steps"
      (rename Fr _ _ _ _ => Fz); (rename News _ _ _ _ => Nz)
      exact endY Fz Nz rfl ⟨_, rfl⟩
    · intro tl h5 tk5 tv k5 F N oD5 hT5
      rw [fm_map] at hT5
      replace F : Fr (hid s.heap) L h5 _ := F
      replace N : News (hid s.heap) L h5 _ := N
      have htvz : tv.length ≤ 10 := by rw [← hT5.len, List.length_map]; exact hrz
      walk_at "my steps"
      (rename Fr _ _ _ _ => Fz); (rename News _ _ _ _ => Nz)
      have hkn : All2 StrV (ls ++ behindL ls ++ rs ++ rs.map (List.drop 1)) (lv ++ bv ++ rv ++ tv) := ((p2.app hbv).app hrv).app hT5
      refine lc_any (ls ++ behindL ls ++ rs ++ rs.map (List.drop 1)) (fun n => some (low n)) StrV StrV (iter_list (by rfl) (Li.led Nz (by k_mem)) Fz Nz (.inr (by simp))) hkn.len (fun i v h => hkn.back h) (by have := hkn.len; rw [this]; simp only [List.length_append]; (first | lia | omega)) (by rfl) (by rfl) ?_ ?_
      · intro C D2 oL I2 io i n v ys k2 mc h2 tk2 hn1 hv1 hmc F N
        show wpAny _ _ (eval _ _) _ _ _
        obtain ⟨tn, rfl⟩ := hv1
        have hmem := List.mem_of_getElem? hn1
        obtain ⟨hnl, hna⟩ := hsm n hmem
        walk_at "my steps"
        (rename Fr _ _ _ _ => Fz); (rename News _ _ _ _ => Nz)
        exact endY Fz Nz rfl ⟨_, rfl⟩
      · intro kl h9 tk9 kv k9 F N oD9 hK9
        rw [fm_map] at hK9
        have hkv : All2 StrV (knownL ls rs) kv := hK9
        have nK : 97 ≠ kl := oD9 (97, tabObj ps) (by k_mem)
        have nKl : ll ≠ kl := oD9 (ll, PySem.W.listOf lv.toArray e₃) (by k_mem)
        have nKb : bl ≠ kl := oD9 (bl, PySem.W.listOf bv.toArray k4) (by k_mem)
        replace F : Fr (hid s.heap) L h9 _ := F
        replace N : News (hid s.heap) L h9 [(kl, PySem.W.listOf kv.toArray k9), (bl, PySem.W.listOf bv.toArray k4), (ll, PySem.W.listOf lv.toArray e₃), (97, tabObj ps)] := newsSub N (by walk_at "msub")
        clear Fz Nz hK9
        have hkz0 : (knownL ls rs).length ≤ 40 := by
          have e1 := behind_len ls
          unfold knownL
          simp only [List.length_map, List.length_append]
          (first | lia | omega)
        walk_at "my steps"
        refine St.r_set (by assumption) (by assumption) rfl (Li.led (by assumption) (by k_mem)) hkv (by (first | lia | omega)) ?_
        intro h10 tk10 S2 oS2 F10 N10 hS2
        have hz10 := St.len_fm (knownL ls rs)
        walk_at "my steps"
        refine St.r_sorted (by assumption) (by assumption) rfl hS2 (by (first | lia | omega)) ?_
        intro h11 d11 tk11 sl ks sv e11 F11 N11 ne11 q1 q2 q3
        clear F10 hS2 F
        replace N11 : News (hid s.heap) L h11 [(sl, PySem.W.listOf sv.toArray e11), (bl, PySem.W.listOf bv.toArray k4), (ll, PySem.W.listOf lv.toArray e₃), (97, tabObj ps)] := newsSub N11 (by walk_at "msub")
        have n2 : 97 ≠ sl := ne11 (97, tabObj ps) (by k_mem)
        have n3 : ll ≠ sl := ne11 (ll, PySem.W.listOf lv.toArray e₃) (by k_mem)
        have n4 : bl ≠ sl := ne11 (bl, PySem.W.listOf bv.toArray k4) (by k_mem)
        clear ne11 N N10
        have hks : ks.length ≤ 40 := by rw [q1.length_eq]; (first | lia | omega)
        have hkm : ∀ n ∈ ks, n.length ≤ 1000 := fun n hn => by
          have := St.mem_fm.mp (q1.mem_iff.mp hn)
          obtain ⟨x, hx, rfl⟩ := List.mem_map.mp this
          have := (hsm x hx).1
          rw [List.length_map]; (first | lia | omega)
        have ok1 := ok.names ls ks p1 p3 q1 q3
        walk_at "my steps"
        refine c_names (by walk_at "wd") (by walk_at "my deep") rfl (Li.led N11 (by k_mem)) q2 (by (first | lia | omega)) hkm ok1 ?_
        intro h12 r b c bv2 cv2 m1 m2 m3 tk12 x12 W12 gr fr gb fb gc fc hbv2 hcv2
        obtain ⟨ps2, okp2, F12, N12, ne12⟩ := after7r F11 N11 (by walk_at "up") x12 W12 gr fr
        replace N12 := newsAdd F11 (newsAdd F11 N12 gb fb) gc fc
        clear x12 gr fr gb fb gc fc N11 F11
        walk_at "my steps"
        (rename Fr _ _ _ _ => F13); (rename News _ _ _ _ => N13)
        have okR := ok.reach ls ks p1 p3 q1 q3
        refine c_reaches (by walk_at "wd") (by walk_at "my deep") rfl (Li.led N13 (by k_mem)) (Li.led N13 (by k_mem)) (p2.app hbv) hcv2 (by rw [List.length_append]; have := behind_len ls; (first | lia | omega)) (fun n hn => Nat.le_trans (hsm n (List.mem_append_left _ (List.mem_append_left _ hn))).1 (by (first | lia | omega))) (fun n hn => (hsm n (List.mem_append_left _ (List.mem_append_left _ hn))).2) (fun n hn => (okR n hn).1) (fun n hn => (okR n hn).2) ?_
        intro h14 tk14 x14 W14
        obtain ⟨ps3, okp3, F14, N14⟩ := after7 F13 N13 (by walk_at "up") x14 W14
        replace N14 : News (hid s.heap) L h14 [(c, PySem.W.listOf cv2.toArray m3), (b, PySem.W.listOf bv2.toArray m2), (ll, PySem.W.listOf lv.toArray e₃), (97, tabObj ps3)] := newsSub N14 (by walk_at "msub")
        clear x14 F13 N13
        walk_at "my steps"
        refine my_for ?_
        walk_at "my steps"
        (rename Fr _ _ _ _ => F15); (rename News _ _ _ _ => N15)
        refine for_listS (fs := fsOf outer) (fun I i m news => ∃ ps4, Okps ps4 ∧ news = [(c, PySem.W.listOf cv2.toArray m3), (b, PySem.W.listOf bv2.toArray m2), (ll, PySem.W.listOf lv.toArray e₃), (97, tabObj ps4)] ∧ c ≠ I ∧ b ≠ I ∧ ll ≠ I ∧ 97 ≠ I ∧ m (Str.ofString "listing") = some (.ref ll) ∧ m (Str.ofString "barred") = some (.ref b) ∧ m (Str.ofString "named") = some (.ref c))
          (hR'.at fun o e => F15.keep _ o e) F15 N15 rfl rfl rfl
          (fun I hI => ⟨ps3, okp3, rfl, Nat.ne_of_lt (hI (c, PySem.W.listOf cv2.toArray m3) (by k_mem)), Nat.ne_of_lt (hI (b, PySem.W.listOf bv2.toArray m2) (by k_mem)), Nat.ne_of_lt (hI (ll, PySem.W.listOf lv.toArray e₃) (by k_mem)), Nat.ne_of_lt (hI (97, tabObj ps3) (by k_mem)), rfl, rfl, rfl⟩)
          ?_ (fun g I i m news h hT hj F N => (listT hT hR').at fun o e => F.keep _ o e) ?_ ?_
        · rintro I i m news ⟨ps4, _, rfl, z1, z2, z3, z4, _⟩ q hq
          simp only [List.mem_cons, List.not_mem_nil, or_false] at hq
          rcases hq with rfl | rfl | rfl | rfl
          · exact z1
          · exact z2
          · exact z3
          · exact z4
        · rintro g I io i v m₁ news₁ h₁ tk₁ hT hio hvi ⟨ps4, okp4, rfl, z1, z2, z3, z4, mL, mB, mN⟩ F N
          obtain ⟨r, hr1, tn, rfl⟩ := hrv.back hvi
          have hmem : r ∈ rs := List.mem_of_getElem? hr1
          obtain ⟨hr2, hr3, hr4⟩ := hrl r hmem
          have n97 : g.get? 97 = none := hT.none_ _ (hid_none _)
          have Bg := belowT B hT
          have Dg := dictsT D hT
          have XG := XB.keeps Bg.stays
          have TG := TB.keeps Bg.stays
          clear X7 T7 F15 N15
          walk_at "my steps"
          replace F : Fr g L h₁ _ := F
          replace N : News g L h₁ [(I, io), (c, PySem.W.listOf cv2.toArray m3), (b, PySem.W.listOf bv2.toArray m2), (ll, PySem.W.listOf lv.toArray e₃), (97, tabObj ps4)] := N
          have g97 := (N (97, tabObj ps4) (by k_mem)).1
          have BT : Tab h₁ := ⟨ps4, g97, okp4⟩
          have st : base.StaysIn h₁ := fun b o e => F.keep _ _ (Bg.stays b o e)
          refine c_right (belowG Bg n97 F BT nofun rfl) (dictsG Dg n97 F BT rfl) XB TB ⟨XB.keeps st, ⟨p, loose, mean0, TB.keeps st⟩, BT⟩ (by walk_at "my deep") rfl (by show aun + 3 + 10 < cLine; (first | lia | omega)) (Li.led N (by k_mem)) (Li.led N (by k_mem)) (Li.led N (by k_mem)) p2 hbv2 hcv2 (by (first | lia | omega)) (fun n hn => hkz n (hlm n hn)) (fun n hn => hasc n (hlm n hn)) hr2 hr3 hr4 p3 (ok.wide ls ks p1 p3 q1 q3 r hmem) (ok.ends ls ks p1 p3 q1 q3 r hmem) ?_
          intro h15 tk15 R15 W15
          obtain ⟨ps5, ht5, okp5⟩ := W15.tab
          obtain ⟨g', T', F', N'⟩ := afterG (gg := fun q => [(I, io), (c, PySem.W.listOf cv2.toArray m3), (b, PySem.W.listOf bv2.toArray m2), (ll, PySem.W.listOf lv.toArray e₃), (97, tabObj q)]) n97 F N (by walk_at "up") Dg R15 ht5
          walk_at "my steps"
          exact endFS (hT.trans T') F' N' ⟨ps5, okp5, rfl, z1, z2, z3, z4, mL, mB, mN⟩
        · rintro g I m₁ news₁ h₁ tk₁ hT ⟨ps4, okp4, rfl, z1, z2, z3, z4, mL, mB, mN⟩ F N
          replace F : Fr g L h₁ _ := F
          have g97 := (N (97, tabObj ps4) (by k_mem)).1
          have st : base.StaysIn h₁ := fun b o e => F.keep _ _ ((belowT B hT).stays b o e)
          walk_at "my steps"
          exact hQ _ _ _ (sameOf hT F) ⟨XB.keeps st, ⟨p, loose, mean0, TB.keeps st⟩, ⟨ps4, g97, okp4⟩⟩
end
end
section
set_option Elab.async false
set_option maxRecDepth 100000
set_option maxHeartbeats 2000000
open PySem PySem.W PySem.Calls PySem.Builtin PyProof.Rows
theorem pick_take {vs : List Value} {k : Nat} {z : Int} (hz : z = (k : Nat)) : (slicePick vs.toArray none (some z) none).toList = vs.take k := by
  subst hz
  have e : sliceBounds none (some (k : Int)) none vs.toArray.size = (((0 : Nat) : Int), ((min k vs.length : Nat) : Int), 1) := by
    simp only [sliceBounds, Option.getD_none, show (1 : Int) > 0 by decide, if_true, if_neg (show ¬ ((k : Int) < 0) by (first | lia | omega)), List.size_toArray]
    congr 1
    congr 1
    exact clampN
  rw [kmk_pick_nat _ e]
  show ((vs.drop 0).take (min k vs.length - 0)) = _
  rw [List.drop_zero, Nat.sub_zero]
  rcases Nat.le_total k vs.length with h | h
  · rw [Nat.min_eq_left h]
  · rw [Nat.min_eq_right h, List.take_length, List.take_of_length_le h]
noncomputable def IntZ (i : Int) (v : Value) : Prop := ∃ t, v = .int i t
theorem all2_ints : ∀ {vs : List Value} {zs : List Int}, IntsAre vs zs → All2 IntZ zs vs
  | _, _, .nil => .nil
  | _, _, .cons n t h => .cons ⟨t, rfl⟩ (all2_ints h)
theorem All2.take' {α β : Type} {R : α → β → Prop} {as : List α} {bs : List β} (h : All2 R as bs) : ∀ k, All2 R (as.take k) (bs.take k) := by
  induction h with
  | nil => intro k; rw [List.take_nil, List.take_nil]; exact .nil
  | cons h1 _ ih =>
    intro k
    cases k with
    | zero => exact .nil
    | succ k => rw [List.take_succ_cons, List.take_succ_cons]; exact .cons h1 (ih k)
theorem All2.drop' {α β : Type} {R : α → β → Prop} {as : List α} {bs : List β} (h : All2 R as bs) : ∀ k, All2 R (as.drop k) (bs.drop k) := by
  induction h with
  | nil => intro k; rw [List.drop_nil, List.drop_nil]; exact .nil
  | cons h1 h2 ih =>
    intro k
    cases k with
    | zero => exact .cons h1 h2
    | succ k => rw [List.drop_succ_cons, List.drop_succ_cons]; exact ih k
section
variable {prog : Program} {w : World} {A : Around} {E : Value → Shared → Prop} {s : Shared} {Q : Value → Shared → Prop} {a b : Int} {x y : Nat} {t u : Tok}
theorem r_modZ (hb : b = (y : Nat)) (hy : 0 < y) (h : ∀ t' k', Q (.int (((a % (y : Int)).toNat : Nat) : Int) t') { s with toks := k' }) : wpAny (model prog w) A (binaryOp .Mod (.int a t) (.int b u)) Q E s := by
  subst hb
  refine mod_int' (by (first | lia | omega)) ?_
  have e : a.fmod (y : Int) = (((a % (y : Int)).toNat : Nat) : Int) := by
    rw [Int.toNat_of_nonneg (Int.emod_nonneg _ (show ((y : Nat) : Int) ≠ 0 by (first | lia | omega)))]
    exact Int.fmod_eq_emod_of_nonneg _ (by (first | lia | omega))
  rw [e]; exact h _ _
end

end
theorem walk_reset_F17 {M : Model} {A : Around} {E : Value → Shared → Prop} {s : Shared} {Q : Bool → Shared → Prop} (h : Q true s) : wpAny M A (truthy (.bool true)) Q E s := by first | (walk1; exact h) | exact wpAny_truthy_bool h
section
set_option maxRecDepth 100000
set_option maxHeartbeats 8000000
set_option linter.unusedVariables false
set_option linter.unusedSimpArgs false
open PySem PySem.W PySem.Calls PyProof.Rows
noncomputable def numsL (zs : List Int) : List Nat := (zs.take 6).map fun z => (z % ((10 ^ 6 : Nat) : Int)).toNat
noncomputable def fullL (zs : List Int) : List Nat := numsL zs ++ [2323, 107, 87, 152, 256, 23].drop (numsL zs).length
noncomputable def hostsL (zs : List Int) : List (List Nat) := ((fullL zs).take 4).map hostL
noncomputable def rulesL (zs : List Int) : List (List Nat) := ((fullL zs).drop 4).map fun n => ruleL n ((hostsL zs).getD (n % 4) [])
section
variable {prog : Program} {w : World} {A : Around} {E : Value → Shared → Prop} {s : Shared} {Q : Value → Shared → Prop} {mg mb : Str → Option Value} {l k : List Nat} {t u : Tok}
local macro_rules | `(tactic| walk_at "my steps") => stepsOf (refT 174 :: stops2)
local macro_rules | `(tactic| walk_at "pick") => altM [ex "Mine.pick_take" "rfl", ex "Mine.pick_drop" "rfl"]
local macro_rules | `(tactic| walk_at "subscriptTail Name Slice ref ref") => sc "dl" ``kmk_slice_lit 10 7 "1:a 2:a 3:isl 4:ip 5:ip 6:pick 8:wu 9:iwu 10:sz" "D' h' F' N' l'"
local macro_rules | `(tactic| walk_at "binaryOp Mod int int") => st "d" ``r_modZ "= decide" "_ _"
local macro_rules | `(tactic| walk_at "subscriptTail List Slice ref ref") => sqM [sd "subscriptTail Name Slice ref ref"]
local macro_rules | `(tactic| walk_at "llen") => sqM [so "List.length_append List.length_drop List.length_take List.length_cons List.length_nil List.size_toArray" false, sd "nat"]
local macro_rules | `(tactic| walk_at "my steps") => stepsOf (refT 121 :: refT 126 :: refT 174 :: stops2)
local macro_rules | `(tactic| walk_at "my deep") => altM [sd "a", pr [ta "show" "show" (ap ``LT.lt [ap ``HAdd.hAdd [ap ``PySem.Around.depth [Lean.mkCIdent ``callerA], holeT], holeT]), sd "decide"], sd "decide"]
theorem nd4 {a b L : Nat} (h1 : a ≠ b) (h2 : a ≠ L + 1) (h3 : a ≠ 97) (h4 : b ≠ L + 1) (h5 : b ≠ 97) (h6 : 97 < L) : [a, b, L + 1, 97].Nodup := by
  have cs : ∀ {a b : Nat} {l : List Nat}, a ≠ b → a ∉ l → a ∉ b :: l := fun h1 h2 q => (List.mem_cons.mp q).elim h1 h2
  exact List.nodup_cons.mpr ⟨cs h1 (cs h2 (cs h3 List.not_mem_nil)), List.nodup_cons.mpr ⟨cs h4 (cs h5 List.not_mem_nil), List.nodup_cons.mpr ⟨cs (Nat.ne_of_gt (Nat.lt_succ_of_lt h6)) List.not_mem_nil, List.nodup_cons.mpr ⟨List.not_mem_nil, List.nodup_nil⟩⟩⟩⟩
theorem full_len (zs : List Int) : (fullL zs).length = 6 := by
  have h : (numsL zs).length ≤ 6 := by unfold numsL; rw [List.length_map, List.length_take]; (first | lia | omega)
  unfold fullL
  rw [List.length_append, List.length_drop]
  exact Nat.add_sub_of_le h
theorem full_lt (zs : List Int) : ∀ n ∈ fullL zs, n < 1000000 := fun n hn => by
  rcases List.mem_append.mp hn with hn | hn
  · obtain ⟨z, _, rfl⟩ := List.mem_map.mp hn
    (first | lia | omega)
  · have := List.mem_of_mem_drop hn
    simp only [List.mem_cons, List.not_mem_nil, or_false] at this
    rcases this with h | h | h | h | h | h <;> subst h <;> decide
theorem law_holds (plain : ∀ zs : List Int, LawOk (hostsL zs) (rulesL zs)) (small : ∀ zs : List Int, (∀ h ∈ hostsL zs, h.length ≤ 100 ∧ Asc h) ∧ ∀ r ∈ rulesL zs, r.length ≤ 100 ∧ Asc r ∧ Cok (low r)) : PySem.Challenge.rw_in0254_01.Holds := Hx.head (by rfl) (by rfl) (by rfl) (by
  k_go0
  all_goals try k_fold
  rename World => w
  rename IntsAre _ _ => hI0
  rename (hd.heap_1 _).In _ => X7
  rename Top topProg _ _ _ _ _ => T7
  rename Below callerA _ [] _ => B7
  rename Fr _ _ _ _ => F7
  rename News _ _ _ _ => N7
  rename 97 < _ => l97
  rename Heap => h₁
  rename Shared => s₁
  rename List Int => zs
  rename Heap.IsList _ _ _ => hS0
  rename (_ : Obj).data = Data.cell _ => ec
  rename Obj => co
  rename Top _ _ _ _ _ s₁.heap => T0
  generalize hL : s₁.heap.objs.size = L at *
  have e1 : co.data = .cell none := ec
  clear ec
  have hS : (hid s₁.heap).IsList _ _ := hS0
  replace X7 : (Mine.hd.heap_1 _).In (hid s₁.heap) := X7
  replace F7 : Fr (hid s₁.heap) L h₁ _ := F7
  replace N7 : News (hid s₁.heap) L h₁ [(L + 1, co), (97, tabObj #[])] := N7
  replace T7 : Top topProg _ _ _ _ (hid s₁.heap) := T7
  have okp : Okps #[] := by
    exact ⟨trivial, .inl rfl⟩
  have W0 : Wd w _ _ s₁.heap := ⟨fun a o e => hid_of (X7 a o e), ⟨_, _, _, T0⟩, ⟨#[], hT8 97 (.head _), okp⟩⟩
  have BB : Below callerA (hid s₁.heap) [] (hid s₁.heap) := B7
  have az := all2_ints hI0
  clear B7 hS0
  have hzl : zs.length ≤ 63 := by (first | lia | omega)
  rename List Value => vs
  have hvl : vs.length ≤ 63 := by rw [← az.len]; exact hzl
  have hg : s₁.gens = #[] := by assumption
  refine wpAny_mono (Q := fun f s' => ∃ h' d' tk', f = .ret (.bool true) ∧ s' = { s₁ with heap := h', drawn := d', toks := tk' } ∧ SameS [97] (hid s₁.heap) h' ∧ Tab h') (E := fun _ _ => False) ?walk ?fin (fun _ _ e => e.elim)
  case fin =>
    rintro f s' ⟨h', d', tk', rfl, rfl, R, TT⟩
    dsimp only
    obtain ⟨ps', ht', okp'⟩ := TT
    refine ⟨⟨.inl ⟨.bool true, ofPy (.bool true), [], rfl, ?g1, ?g2, ?g3, ?g4⟩, ?g5, rfl, hg⟩, ?g6⟩
    case g5 => exact fun b o e => R.other b o e fun q => by rw [List.mem_singleton.mp q] at e; exact nomatch (hid_none s₁.heap).symm.trans e
    case g1 => intro cls; rfl
    case g3 => first | rfl | (with_unfolding_all rfl) | kernel_rfl
    case g4 => exact fun _ => ⟨List.nodup_nil, nofun⟩
    case g2 => exact .bool _
    case g6 => exact ⟨⟨ps', ht'⟩, trivial⟩
  case walk =>
    walk_at "my steps"
    walk_at "my lcA"
    have az6 := All2.take' az 6
    have hz6 : (zs.take 6).length ≤ 6 := by rw [List.length_take]; (first | lia | omega)
    refine lc_any (zs.take 6) (fun z => some ((z % ((10 ^ 6 : Nat) : Int)).toNat)) IntZ IntV (iter_list (by rfl) (Li.led (by assumption) (by k_mem)) (by assumption) (by assumption) (.inr (by simp))) az6.len (fun i v h => az6.back h) (by (first | lia | omega)) (by rfl) (by rfl) ?_ ?_
    · intro C D2 oL I2 io i z v ys k2 mc h2 tk2 hn1 hv1 hmc F N
      show wpAny _ _ (eval _ _) _ _ _
      obtain ⟨tn, rfl⟩ := hv1
      walk_at "my steps"
      (rename Fr _ _ _ _ => Fz); (rename News _ _ _ _ => Nz)
      exact endY Fz Nz rfl ⟨_, rfl⟩
    · intro dl h2 tk2 dv k2 F N oD2 hD2
      rw [fm_map] at hD2
      have hdv : All2 IntV (numsL zs) dv := hD2
      have hdz : dv.length ≤ 6 := by rw [← hdv.len]; unfold numsL; rw [List.length_map]; exact hz6
      have nd1 : L + 1 ≠ dl := oD2 (L + 1, co) (by k_mem)
      have nd97 : 97 ≠ dl := oD2 (97, tabObj #[]) (by k_mem)
      replace F : Fr (hid s₁.heap) L h2 _ := F
      replace N : News (hid s₁.heap) L h2 [(dl, PySem.W.listOf dv.toArray k2), (L + 1, co), (97, tabObj #[])] := newsSub N (by walk_at "msub")
      clear hD2
      walk_at "my steps"
      (rename Fr _ _ _ _ => Fz); (rename News _ _ _ _ => Nz)
      rename_i na _ _ _
      rename _ < na ∧ _ < na ∧ _ < na ∧ L + 1 < na ∧ 97 < na => ltna
      generalize hnv : dv ++ List.drop dv.toArray.size _ = nv at Nz
      have na1 : na ≠ L + 1 := Nat.ne_of_gt ltna.2.2.2.1
      have na97 : na ≠ 97 := Nat.ne_of_gt ltna.2.2.2.2
      replace Nz : News (hid s₁.heap) L _ [(na, PySem.W.listOf nv.toArray 0), (L + 1, co), (97, tabObj #[])] := newsSub Nz (by walk_at "msub")
      have hfv : All2 IntV (fullL zs) nv := by
        rw [← hnv, show dv.toArray.size = (numsL zs).length by rw [List.size_toArray, hdv.len]]
        exact hdv.app (All2.drop' (.cons ⟨_, rfl⟩ (.cons ⟨_, rfl⟩ (.cons ⟨_, rfl⟩ (.cons ⟨_, rfl⟩ (.cons ⟨_, rfl⟩ (.cons ⟨_, rfl⟩ .nil)))))) _)
      clear hnv
      have hnz : nv.length = 6 := by rw [← hfv.len]; exact full_len zs
      have hf4 := All2.take' hfv 4
      have hf2 := All2.drop' hfv 4
      have hz4 : ((fullL zs).take 4).length = 4 := by rw [List.length_take, full_len]; rfl
      have hz2 : ((fullL zs).drop 4).length = 2 := by rw [List.length_drop, full_len]
      walk1
      walk_at "my lc"
      refine lc_any ((fullL zs).take 4) (fun n => some (hostL n)) IntV StrV (iter_list (by rfl) (Li.led (by assumption) (by k_mem)) (by assumption) (by assumption) (.inr (by simp))) hf4.len (fun i v h => hf4.back h) (by (first | lia | omega)) (by rfl) (by rfl) ?_ ?_
      · intro C D2 oL I2 io i n v ys k2 mc h2 tk2 hn1 hv1 hmc F N
        show wpAny _ _ (eval _ _) _ _ _
        obtain ⟨tn, rfl⟩ := hv1
        have hn6 := full_lt zs n (List.mem_of_mem_take (List.mem_of_getElem? hn1))
        walk_at "my steps"
        refine c_host rfl (by walk_at "wd") (by walk_at "my deep") rfl hn6 ?_
        intro h' t' tk' x'
        exact endY (Fr.keeps (by assumption) x') (News.grown (by assumption) x') rfl ⟨_, rfl⟩
      · intro hl h3 tk3 hv k3 F N oD3 hH3
        rw [fm_map] at hH3
        have hhv : All2 StrV (hostsL zs) hv := hH3
        replace F : Fr (hid s₁.heap) L h3 _ := F
        replace N : News (hid s₁.heap) L h3 _ := N
        have nh1 : hl ≠ L + 1 := Ne.symm (oD3 (L + 1, co) (by k_mem))
        have nh97 : hl ≠ 97 := Ne.symm (oD3 (97, tabObj #[]) (by k_mem))
        have nhn : hl ≠ na := Ne.symm (oD3 (na, PySem.W.listOf nv.toArray 0) (by k_mem))
        replace N : News (hid s₁.heap) L h3 [(hl, PySem.W.listOf hv.toArray k3), (na, PySem.W.listOf nv.toArray 0), (L + 1, co), (97, tabObj #[])] := newsSub N (by walk_at "msub")
        refine r_storeC F N rfl (by k_mem) e1 ?_
        intro h4 o4 F4 up4 d4
        have N4 := up4 _ (newsPut (x := [(hl, PySem.W.listOf hv.toArray k3), (na, PySem.W.listOf nv.toArray 0)]) (o' := o4) (nd4 nhn nh1 nh97 na1 na97 l97))
        simp only [List.cons_append, List.nil_append] at N4
        clear up4 F N
        have hhz : (hostsL zs).length = 4 := by unfold hostsL; rw [List.length_map, hz4]
        walk_at "my steps"
        obtain ⟨hsm, rsm⟩ := small zs
        walk_at "my lc"
        refine lc_any ((fullL zs).drop 4) (fun n => some (ruleL n ((hostsL zs).getD (n % 4) []))) IntV StrV (iter_list (by rfl) (Li.led (by assumption) (by k_mem)) (by assumption) (by assumption) (.inr (by simp))) hf2.len (fun i v h => hf2.back h) (by (first | lia | omega)) (by rfl) (by rfl) ?_ ?_
        · intro C D2 oL I2 io i n v ys k2 mc h2 tk2 hn1 hv1 hmc F N
          show wpAny _ _ (eval _ _) _ _ _
          obtain ⟨tn, rfl⟩ := hv1
          have hn6 := full_lt zs n (List.mem_of_mem_drop (List.mem_of_getElem? hn1))
          walk_at "my steps"
          refine c_rule rfl (by walk_at "wd") (by walk_at "my deep") rfl hn6 (Li.led (by assumption) (by k_mem)) hhv hhz (fun h hh => (hsm h hh).1) (fun h hh => (hsm h hh).2) ?_
          intro h' t' tk' x'
          exact endY (Fr.keeps (by assumption) x') (News.grown (by assumption) x') rfl ⟨_, rfl⟩
        · intro rl h5 tk5 rv k5 F N oD5 hR5
          rw [fm_map] at hR5
          have hrv : All2 StrV (rulesL zs) rv := hR5
          replace F : Fr (hid s₁.heap) L h5 _ := F
          replace N : News (hid s₁.heap) L h5 [(rl, PySem.W.listOf rv.toArray k5), (hl, PySem.W.listOf hv.toArray k3), (97, tabObj #[])] := newsSub N (by walk_at "msub")
          have hrz : (rulesL zs).length = 2 := by unfold rulesL; rw [List.length_map, hz2]
          have g97 := (N (97, tabObj #[]) (by k_mem)).1
          have BT : Tab h5 := ⟨#[], g97, okp⟩
          walk_at "my steps"
          refine c_lawright (belowG BB (hid_none _) F BT nofun rfl) (dictsG ktsDicts_nil (hid_none _) F BT rfl) X7 T7 (by walk_at "wd") (by show callerA.depth + 1 + 6 < recursionLimit; decide) rfl (by show callerA.units + 3 + 20 < cLine; decide) (Li.led N (by k_mem)) (Li.led N (by k_mem)) hhv hrv (by (first | lia | omega)) (by (first | lia | omega)) (fun h hh => (hsm h hh).1) (fun h hh => (hsm h hh).2) rsm (plain zs) ?_
          intro h6 d6 tk6 R6 W6
          obtain ⟨ps6, ht6, okp6⟩ := W6.tab
          obtain ⟨g6, T6, F6, _⟩ := afterG (gg := fun q => [(rl, PySem.W.listOf rv.toArray k5), (hl, PySem.W.listOf hv.toArray k3), (97, tabObj q)]) (hid_none _) F N (by walk_at "up") (outer := []) ktsDicts_nil R6 ht6
          walk_at "unhide"
          try dsimp only
          exact ⟨h6, d6, tk6, rfl, rfl, sameOf (outer := []) T6 F6, W6.tab⟩)
end
end
section
set_option Elab.async false
set_option maxRecDepth 100000
set_option maxHeartbeats 2000000
open PySem PySem.W PySem.Calls PySem.Builtin PyProof.Rows
namespace Pl
noncomputable def sg : It → Nat
  | .lit c => c
  | .cls c => c
  | _ => 0
noncomputable def isP : It → Prop
  | .lit _ => True
  | .cls _ => True
  | _ => False
theorem gAt_pre : ∀ {G : List It}, (∀ i ∈ G, isP i) → ∀ l, gAt G l = true ↔ G.map sg <+: l
  | [], _, l => by simp [gAt]
  | g :: G, h, [] => by simp [gAt]
  | g :: G, h, c :: r => by
    have hg := h g (.head _)
    have ih := gAt_pre (fun i hi => h i (.tail _ hi)) r
    rw [List.map_cons, List.cons_prefix_cons]
    cases g with
    | lit d =>
      simp only [gAt, It.val, Bool.and_eq_true, Bool.or_eq_true, decide_eq_true_eq, sg, ih]
      constructor
      · rintro ⟨h1 | h1, h2⟩
        · simp at h1
        · simp at h1; exact ⟨h1, h2⟩
      · rintro ⟨rfl, h2⟩
        exact ⟨.inr (by simp), h2⟩
    | cls d =>
      simp only [gAt, It.val, Bool.and_eq_true, Bool.or_eq_true, decide_eq_true_eq, sg, ih]
      constructor
      · rintro ⟨h1 | h1, h2⟩
        · simp at h1
        · simp at h1; exact ⟨h1, h2⟩
      · rintro ⟨rfl, h2⟩
        exact ⟨.inr (by simp), h2⟩
    | star => exact absurd hg id
    | any => exact absurd hg id
theorem grp_plain : ∀ {P : List It}, (∀ i ∈ P, isP i) → grp P = [P]
  | [], _ => rfl
  | i :: P, h => by
    have ih := grp_plain fun j hj => h j (.tail _ hj)
    have hi : i ≠ .star := fun e => by have := h i (.head _); rw [e] at this; exact this
    rw [grp, if_neg hi, ih]
theorem takes_eq {P : List It} (h : ∀ i ∈ P, isP i) (l : List Nat) : takes (grp P) l = true ↔ P.map sg = l := by
  rw [grp_plain h]
  show (gAt P l && decide (P.length = l.length)) = true ↔ _
  rw [Bool.and_eq_true, gAt_pre h, decide_eq_true_eq]
  constructor
  · rintro ⟨h1, h2⟩
    exact h1.eq_of_length (by rw [List.length_map]; exact h2)
  · rintro rfl
    exact ⟨List.prefix_refl _, by simp⟩
theorem takes_suf {P : List It} (h : ∀ i ∈ P, isP i) (l : List Nat) : takes (grp (.star :: P)) l = true ↔ P.map sg <:+ l := by
  have e : grp (.star :: P) = [[], P] := by rw [grp, if_pos rfl, grp_plain h]
  rw [e]
  show (gAt [] l && (decide (0 + P.length ≤ l.length) && gAt P (l.drop (l.length - P.length)))) = true ↔ _
  rw [gAt, Bool.true_and, Bool.and_eq_true, decide_eq_true_eq, gAt_pre h]
  constructor
  · rintro ⟨h1, h2⟩
    have e2 : P.map sg = l.drop (l.length - P.length) := h2.eq_of_length (by rw [List.length_map, List.length_drop]; exact (Nat.sub_sub_self (by simpa using h1)).symm)
    rw [e2]; exact List.drop_suffix _ _
  · rintro ⟨t, rfl⟩
    refine ⟨by simp, ?_⟩
    have : (t ++ P.map sg).length - P.length = t.length := by simp
    rw [this, List.drop_left]
    exact List.prefix_refl _
theorem takes_pre (l : List Nat) : takes (grp [.lit 46, .star]) l = true ↔ [46] <+: l := by
  have e : grp [.lit 46, .star] = [[.lit 46], []] := by decide
  rw [e]
  show (gAt [.lit 46] l && (decide (1 + 0 ≤ l.length) && gAt [] _)) = true ↔ _
  rw [gAt, Bool.and_true, Bool.and_eq_true, decide_eq_true_eq, gAt_pre (G := [.lit 46]) (by simp [isP])]
  constructor
  · exact fun h => h.1
  · intro h
    exact ⟨h, by have := h.length_le; simpa using this⟩
theorem takes_one (l : List Nat) : takes (grp [.any, .star]) l = true ↔ l ≠ [] := by
  have e : grp [.any, .star] = [[.any], []] := by decide
  rw [e]
  cases l with
  | nil => simp [takes, gAt]
  | cons c r => simp [takes, gAt, mids, It.val]
theorem scan_some {G : List It} {l : List Nat} : ∀ (n a : Nat), (∃ b, scanF G l n a = some b ∧ a ≤ b ∧ gAt G (l.drop b) = true ∧ b < a + n) ∨ (scanF G l n a = none ∧ ∀ b, a ≤ b → b < a + n → gAt G (l.drop b) = false)
  | 0, a => .inr ⟨rfl, fun b h1 h2 => by (first | lia | omega)⟩
  | n + 1, a => by
    by_cases h : gAt G (l.drop a) = true
    · exact .inl ⟨a, by rw [scanF, if_pos h], Nat.le_refl _, h, by (first | lia | omega)⟩
    · rcases scan_some n (a + 1) with ⟨b, h1, h2, h3, h4⟩ | ⟨h1, h2⟩
      · exact .inl ⟨b, by rw [scanF, if_neg h]; exact h1, by (first | lia | omega), h3, by (first | lia | omega)⟩
      · refine .inr ⟨by rw [scanF, if_neg h]; exact h1, fun b hb1 hb2 => ?_⟩
        by_cases q : b = a
        · rw [q]; exact Bool.eq_false_iff.mpr h
        · exact h2 b (by (first | lia | omega)) (by (first | lia | omega))
theorem grp_end : ∀ {P : List It}, (∀ i ∈ P, isP i) → grp (P ++ [.star]) = [P, []]
  | [], _ => by decide
  | i :: P, h => by
    have ih := grp_end fun j hj => h j (.tail _ hj)
    have hi : i ≠ .star := fun e => by have := h i (.head _); rw [e] at this; exact this
    rw [List.cons_append, grp, if_neg hi, ih]
theorem takes_in {P : List It} (h : ∀ i ∈ P, isP i) (l : List Nat) : takes (grp ([.any, .star] ++ P ++ [.star])) l = true ↔ l ≠ [] ∧ ∃ b, 1 ≤ b ∧ b ≤ l.length ∧ P.map sg <+: l.drop b := by
  have e : grp ([.any, .star] ++ P ++ [.star]) = [[.any], P, []] := by
    show grp (.any :: .star :: (P ++ [.star])) = _
    rw [grp, if_neg (by decide), grp, if_pos rfl, grp_end h]
  rw [e]
  show (gAt [.any] l && (match (match scan P l 1 with | none => none | some b => some (b + P.length)) with | none => false | some a => decide (a + 0 ≤ l.length) && gAt [] (l.drop (l.length - 0)))) = true ↔ _
  have hg : gAt [.any] l = true ↔ l ≠ [] := by cases l <;> simp [gAt, It.val]
  rw [Bool.and_eq_true, hg]
  refine and_congr_right fun hne => ?_
  unfold scan
  rcases scan_some (G := P) (l := l) (l.length + 1 - 1) 1 with ⟨b, h1, h2, h3, h4⟩ | ⟨h1, h2⟩
  · rw [h1]
    have hp := (gAt_pre h _).mp h3
    have hl := hp.length_le
    rw [List.length_map, List.length_drop] at hl
    simp only [gAt, Bool.and_true, decide_eq_true_eq]
    exact ⟨fun _ => ⟨b, h2, by (first | lia | omega), hp⟩, fun _ => by (first | lia | omega)⟩
  · rw [h1]
    simp only [Bool.false_eq_true, false_iff]
    rintro ⟨b, hb1, hb2, hb3⟩
    have := h2 b hb1 (by (first | lia | omega))
    rw [(gAt_pre h _).mpr hb3] at this
    cases this
theorem scan_one {c : Nat} {l : List Nat} (a : Nat) (ha : a ≤ l.length) : (∃ b, scan [.lit c] l a = some b ∧ a ≤ b ∧ c ∉ (l.drop a).take (b - a) ∧ l[b]? = some c) ∨ (scan [.lit c] l a = none ∧ c ∉ l.drop a) := by
  have hp : ∀ b, gAt [.lit c] (l.drop b) = true ↔ l[b]? = some c := fun b => by
    rw [gAt_pre (G := [.lit c]) (by simp [isP])]
    have e : l[b]? = (l.drop b)[0]? := by rw [List.getElem?_drop]; rfl
    rw [e]
    cases l.drop b with
    | nil => simp
    | cons d r => simp [sg, eq_comm]
  unfold scan
  generalize hn : l.length + 1 - a = n
  clear ha
  induction n generalizing a with
  | zero =>
    refine .inr ⟨rfl, ?_⟩
    rw [List.drop_of_length_le (Nat.le_of_succ_le (Nat.le_of_sub_eq_zero hn))]; exact List.not_mem_nil
  | succ n ih =>
    by_cases h : gAt [.lit c] (l.drop a) = true
    · exact .inl ⟨a, by rw [scanF, if_pos h], Nat.le_refl _, by rw [Nat.sub_self]; simp, (hp a).mp h⟩
    · have hda : l.drop a = [] ∨ ∃ d, d ≠ c ∧ l.drop a = d :: l.drop (a + 1) := by
        cases hd : l.drop a with
        | nil => exact .inl rfl
        | cons d r =>
          refine .inr ⟨d, fun e => h ?_, ?_⟩
          · rw [hp, show l[a]? = (l.drop a)[0]? by rw [List.getElem?_drop]; rfl, hd, e]; rfl
          · rw [← List.drop_drop, hd]; rfl
      rcases ih (a + 1) (by rw [Nat.sub_add_eq, hn]; rfl) with ⟨b, h1, h2, h3, h4⟩ | ⟨h1, h2⟩
      · refine .inl ⟨b, by rw [scanF, if_neg h]; exact h1, by (first | lia | omega), ?_, h4⟩
        rcases hda with hd | ⟨d, hd1, hd2⟩
        · rw [hd]; simp
        · rw [hd2, show b - a = (b - (a + 1)) + 1 by rw [Nat.sub_add_eq, Nat.sub_add_cancel (Nat.sub_pos_of_lt h2)], List.take_succ_cons]
          exact fun q => (List.mem_cons.mp q).elim (fun e => hd1 e.symm) h3
      · refine .inr ⟨by rw [scanF, if_neg h]; exact h1, ?_⟩
        rcases hda with hd | ⟨d, hd1, hd2⟩
        · rw [hd]; exact List.not_mem_nil
        · rw [hd2]; exact fun q => (List.mem_cons.mp q).elim (fun e => hd1 e.symm) h2
theorem takes_two (l : List Nat) : takes (grp [.star, .lit 46, .star, .lit 46, .star]) l = true ↔ ∃ b, l[b]? = some 46 ∧ 46 ∉ l.take b ∧ 46 ∈ l.drop (b + 1) := by
  have e : grp [.star, .lit 46, .star, .lit 46, .star] = [[], [.lit 46], [.lit 46], []] := by decide
  rw [e]
  show (gAt [] l && (match (match scan [.lit 46] l 0 with | none => none | some b => (match scan [.lit 46] l (b + 1) with | none => none | some b => some (b + 1))) with | none => false | some a => decide (a + 0 ≤ l.length) && gAt [] (l.drop (l.length - 0)))) = true ↔ _
  rw [gAt, Bool.true_and]
  rcases scan_one (c := 46) (l := l) 0 (Nat.zero_le _) with ⟨b, h1, _, h3, h4⟩ | ⟨h1, h2⟩
  · rw [h1]
    dsimp only
    rw [List.drop_zero, Nat.sub_zero] at h3
    have hb : b < l.length := (List.getElem?_eq_some_iff.mp h4).1
    have un : ∀ b', l[b']? = some 46 → 46 ∉ l.take b' → b' = b := fun b' e1 e2 => by
      rcases Nat.lt_trichotomy b' b with q | q | q
      · exact absurd (List.mem_of_getElem? (i := b') (by rw [List.getElem?_take, if_pos q]; exact e1)) h3
      · exact q
      · exact absurd (List.mem_of_getElem? (i := b) (by rw [List.getElem?_take, if_pos q]; exact h4)) e2
    rcases scan_one (c := 46) (l := l) (b + 1) hb with ⟨b2, g1, g2, _, g4⟩ | ⟨g1, g2⟩
    · rw [g1]
      have hb2 := (List.getElem?_eq_some_iff.mp g4).1
      simp only [gAt, Bool.and_true, decide_eq_true_eq]
      exact ⟨fun _ => ⟨b, h4, h3, List.mem_of_getElem? (i := b2 - (b + 1)) (by rw [List.getElem?_drop, show b + 1 + (b2 - (b + 1)) = b2 from Nat.add_sub_of_le (by assumption)]; exact g4)⟩, fun _ => by (first | lia | omega)⟩
    · rw [g1]
      simp only [Bool.false_eq_true, false_iff]
      rintro ⟨b', e1, e2, e3⟩
      rw [un b' e1 e2] at e3
      exact g2 e3
  · rw [h1]
    simp only [Bool.false_eq_true, false_iff]
    rintro ⟨b', e1, _⟩
    rw [List.drop_zero] at h2
    exact h2 (List.mem_of_getElem? e1)
theorem mem_kept {P : List It} {ns : List (List Nat)} {n : List Nat} : n ∈ kept P ns ↔ n ∈ ns ∧ takes (grp P) n = true := List.mem_filter
/-- a text of the law: no digit but 7, no line end, at most four 7 -/
structure Kn (n : List Nat) : Prop where
  dig : ∀ c ∈ n, PySem.Sre.isDigit c = true → c = 55
  nl : 10 ∉ n
  four : n.count 55 ≤ 4
noncomputable def sevens (k : Nat) : List Nat := 46 :: List.replicate k 55
theorem hits_iff (T : Array Nat) : ∀ n s, Rx.hits T n s = true ↔ ∃ q, s ≤ q ∧ q ≤ s + n ∧ Rx.hit T q = true
  | 0, s => by
    rw [Rx.hits]
    exact ⟨fun h => ⟨s, Nat.le_refl _, Nat.le_refl _, h⟩, fun ⟨q, h1, h2, h3⟩ => by rw [show q = s by (first | lia | omega)] at h3; exact h3⟩
  | n + 1, s => by
    rw [Rx.hits, Bool.or_eq_true, hits_iff T n (s + 1)]
    constructor
    · rintro (h | ⟨q, h1, h2, h3⟩)
      · exact ⟨s, Nat.le_refl _, by (first | lia | omega), h⟩
      · exact ⟨q, by (first | lia | omega), by (first | lia | omega), h3⟩
    · rintro ⟨q, h1, h2, h3⟩
      by_cases e : q = s
      · exact .inl (e ▸ h3)
      · exact .inr ⟨q, by (first | lia | omega), by (first | lia | omega), h3⟩
theorem digs_all (T : Array Nat) : ∀ n p, (∀ i, i < n → PySem.Sre.isDigit (T.getD (p + i) 0) = true) → Rx.digs T n p = n
  | 0, p, _ => rfl
  | n + 1, p, h => by
    rw [Rx.digs, if_pos (show PySem.Sre.isDigit (T.getD p 0) = true from h 0 (by (first | lia | omega))), digs_all T n (p + 1) fun i hi => by rw [show p + 1 + i = p + (i + 1) by (first | lia | omega)]; exact h (i + 1) (by (first | lia | omega))]
theorem getD_toArray (l : List Nat) (i : Nat) : (mk l).cps.getD i 0 = (l[i]?).getD 0 := by
  rw [Array.getD_eq_getD_getElem?]
  show (l.toArray[i]?).getD 0 = _
  rw [List.getElem?_toArray]
theorem ipv4_iff {l : List Nat} (K : Kn l) : Rx.ipv4 (mk l) = true ↔ ∃ k, 1 ≤ k ∧ sevens k <:+ l := by
  have hsz : (mk l).cps.size = l.length := by show l.toArray.size = _; simp
  unfold Rx.ipv4
  rw [hits_iff]
  constructor
  · rintro ⟨s, _, _, h⟩
    unfold Rx.hit at h
    rw [hsz] at h
    generalize hd : Rx.digs (mk l).cps (l.length - (s + 1)) (s + 1) = d at h
    simp only [Bool.and_eq_true, decide_eq_true_eq, beq_iff_eq] at h
    obtain ⟨⟨⟨h1, h2⟩, h3⟩, h4⟩ := h
    have hend : s + 1 + d = l.length := by
      unfold Rx.atEnd at h4
      rw [hsz] at h4
      simp only [Bool.or_eq_true, Bool.and_eq_true, beq_iff_eq] at h4
      rcases h4 with h4 | ⟨h4, h5⟩
      · exact h4
      · rw [getD_toArray] at h5
        cases hq : l[s + 1 + d]? with
        | none => rw [hq] at h5; cases h5
        | some c => rw [hq] at h5; exact absurd (List.mem_of_getElem? (hq.trans (congrArg some h5))) K.nl
    have hseven : ∀ i, i < d → l[s + 1 + i]? = some 55 := fun i hi => by
      have hx := (Rx.digs_digit (mk l).cps (l.length - (s + 1)) (s + 1) i (by rw [hd]; exact hi)).1
      rw [getD_toArray] at hx
      have hlt : s + 1 + i < l.length := by (first | lia | omega)
      rw [List.getElem?_eq_getElem hlt] at hx ⊢
      exact congrArg some (K.dig _ (List.getElem_mem hlt) hx)
    have h46 : l[s]? = some 46 := by
      rw [getD_toArray] at h2
      rw [List.getElem?_eq_getElem h1] at h2 ⊢
      exact congrArg some h2
    refine ⟨d, h3, ?_⟩
    have e : sevens d = l.drop s := by
      apply List.ext_getElem?
      intro j
      rw [List.getElem?_drop]
      cases j with
      | zero => exact h46.symm
      | succ i =>
        show (List.replicate d 55)[i]? = _
        rw [show s + (i + 1) = s + 1 + i by (first | lia | omega)]
        by_cases hi : i < d
        · rw [hseven i hi, List.getElem?_replicate, if_pos hi]
        · rw [List.getElem?_replicate, if_neg hi, List.getElem?_eq_none (by (first | lia | omega))]
    rw [e]; exact List.drop_suffix _ _
  · rintro ⟨k, hk, t, rfl⟩
    refine ⟨t.length, Nat.zero_le _, by rw [hsz]; simp, ?_⟩
    have hl : (t ++ sevens k).length = t.length + 1 + k := by simp [sevens]; (first | lia | omega)
    have hg : ∀ i, i < k → (t ++ sevens k)[t.length + 1 + i]? = some 55 := fun i hi => by
      rw [List.getElem?_append_right (Nat.le_trans (Nat.le_add_right _ _) (Nat.le_add_right _ _)), show t.length + 1 + i - t.length = i + 1 by rw [Nat.add_assoc, Nat.add_sub_cancel_left, Nat.add_comm]]
      show (List.replicate k 55)[i]? = _
      rw [List.getElem?_replicate, if_pos hi]
    have hd : Rx.digs (mk (t ++ sevens k)).cps ((t ++ sevens k).length - (t.length + 1)) (t.length + 1) = k := by
      rw [show (t ++ sevens k).length - (t.length + 1) = k by rw [hl, Nat.add_sub_cancel_left]]
      refine digs_all _ _ _ fun i hi => ?_
      rw [getD_toArray, hg i hi]; rfl
    unfold Rx.hit Rx.atEnd
    rw [hsz, hd, getD_toArray, List.getElem?_append_right (Nat.le_refl _), Nat.sub_self]
    simp only [Bool.and_eq_true, decide_eq_true_eq, beq_iff_eq, Bool.or_eq_true]
    exact ⟨⟨⟨by (first | lia | omega), rfl⟩, hk⟩, .inl (by (first | lia | omega))⟩
theorem sevens_le {k : Nat} {n : List Nat} (h : sevens k <:+ n) : k ≤ n.count 55 := by
  obtain ⟨t, rfl⟩ := h
  rw [List.count_append]
  have : (sevens k).count 55 = k := by unfold sevens; rw [List.count_cons, List.count_replicate_self]; simp
  (first | lia | omega)
theorem barred_iff {ks : List (List Nat)} {n : List Nat} (hn : n ∈ ks) (K : Kn n) : n ∈ barredL ks ↔ Rx.ipv4 (mk n) = true := by
  rw [ipv4_iff K]
  have key : ∀ P : List It, (∀ i ∈ P, isP i) → (n ∈ kept (.star :: P) ks ↔ P.map sg <:+ n) := fun P h => by
    rw [mem_kept, takes_suf h]
    exact ⟨fun h => h.2, fun h => ⟨hn, h⟩⟩
  unfold barredL
  rw [List.mem_append, List.mem_append, List.mem_append, key [.lit 46, .lit 55] (by simp [isP]), key [.lit 46, .lit 55, .lit 55] (by simp [isP]), key [.lit 46, .lit 55, .lit 55, .lit 55] (by simp [isP]), key [.lit 46, .lit 55, .lit 55, .lit 55, .lit 55] (by simp [isP])]
  constructor
  · rintro (((h | h) | h) | h)
    · exact ⟨1, by (first | lia | omega), h⟩
    · exact ⟨2, by (first | lia | omega), h⟩
    · exact ⟨3, by (first | lia | omega), h⟩
    · exact ⟨4, by (first | lia | omega), h⟩
  · rintro ⟨k, hk, h⟩
    have := sevens_le h
    have := K.four
    rcases k with _ | _ | _ | _ | _ | k
    · (first | lia | omega)
    · exact .inl (.inl (.inl h))
    · exact .inl (.inl (.inr h))
    · exact .inl (.inr h)
    · exact .inr h
    · (first | lia | omega)
theorem head_iff {n : List Nat} (hne : n ≠ []) : [46] <+: n ↔ n.headD 0 = 46 := by
  cases n with
  | nil => exact absurd rfl hne
  | cons c r => simp [eq_comm]
theorem last_iff {n : List Nat} (hne : n ≠ []) : [46] <:+ n ↔ n.getLastD 0 = 46 := by
  obtain ⟨t, c, rfl⟩ : ∃ t c, n = t ++ [c] := ⟨n.dropLast, n.getLast hne, (List.dropLast_concat_getLast hne).symm⟩
  rw [List.getLastD_concat]
  constructor
  · intro h
    have := List.suffix_of_suffix_length_le h (List.suffix_append t [c]) (by simp)
    have := this.eq_of_length (by simp)
    exact (List.cons.inj this).1.symm
  · rintro rfl; exact List.suffix_append _ _
theorem named_iff {ks : List (List Nat)} {n : List Nat} (hn : n ∈ ks) (K : Kn n) : n ∈ namedL ks ↔ hdn n = true := by
  unfold namedL outL hdn
  rw [List.mem_filter, mem_kept, takes_one]
  simp only [Bool.not_eq_true', decide_eq_false_iff_not, Bool.and_eq_true, decide_eq_true_eq, List.mem_append]
  rw [barred_iff hn K, mem_kept, mem_kept, takes_pre, takes_suf (P := [.lit 46]) (by simp [isP])]
  constructor
  · rintro ⟨⟨_, h1⟩, h2⟩
    refine ⟨⟨⟨by cases q : Rx.ipv4 (mk n) with | false => rfl | true => exact absurd (.inl (.inl q)) h2, h1⟩, fun q => h2 (.inl (.inr ⟨hn, (head_iff h1).mpr q⟩))⟩, fun q => h2 (.inr ⟨hn, (last_iff h1).mpr q⟩)⟩
  · rintro ⟨⟨⟨h1, h2⟩, h3⟩, h4⟩
    refine ⟨⟨hn, h2⟩, ?_⟩
    rintro ((q | q) | q)
    · rw [h1] at q; cases q
    · exact h3 ((head_iff h2).mp q.2)
    · exact h4 ((last_iff h2).mp q.2)
theorem names_ok {ks : List (List Nat)} {n : List Nat} (hn : n ∈ ks) (K : Kn n) : hdn n = decide (n ∈ namedL ks) ∧ (!Rx.ipv4 (mk n)) = !decide (n ∈ barredL ks) := by
  constructor
  · by_cases h : n ∈ namedL ks
    · rw [decide_eq_true h]; exact (named_iff hn K).mp h
    · rw [decide_eq_false h]; exact Bool.eq_false_iff.mpr fun q => h ((named_iff hn K).mpr q)
  · by_cases h : n ∈ barredL ks
    · rw [decide_eq_true h, (barred_iff hn K).mp h]
    · rw [decide_eq_false h, Bool.eq_false_iff.mpr fun q => h ((barred_iff hn K).mpr q)]
theorem lowc_out {c d : Nat} (hd : d < 97) (hd2 : d < 65 ∨ 90 < d) : lowc c = d ↔ c = d := by unfold lowc; split <;> (first | lia | omega)
theorem low_suf {k : Nat} {l : List Nat} : sevens k <:+ low l ↔ sevens k <:+ l := by
  constructor
  · intro h
    obtain ⟨t, e⟩ := h
    have e2 : l = l.take t.length ++ l.drop t.length := (List.take_append_drop _ _).symm
    have e3 : low (l.drop t.length) = sevens k := by
      show (l.drop t.length).map lowc = _
      rw [List.map_drop, show l.map lowc = t ++ sevens k from e.symm, List.drop_left]
    have e4 : l.drop t.length = sevens k := by
      have : ∀ (a b : List Nat), a.map lowc = b → (∀ c ∈ b, c = 46 ∨ c = 55) → a = b := fun a => by
        induction a with
        | nil => intro b h _; exact h
        | cons c r ih =>
          intro b h hb
          cases b with
          | nil => cases h
          | cons d s =>
            rw [List.map_cons] at h
            obtain ⟨h1, h2⟩ := List.cons.inj h
            rw [ih s h2 fun x hx => hb x (.tail _ hx)]
            congr 1
            rcases hb d (.head _) with q | q <;> (subst q; exact (lowc_out (by (first | lia | omega)) (by (first | lia | omega))).mp h1)
      refine this _ _ e3 fun c hc => ?_
      rcases List.mem_cons.mp hc with h | h
      · exact .inl h
      · exact .inr (List.eq_of_mem_replicate h)
    rw [← e4]; exact List.drop_suffix _ _
  · rintro ⟨t, rfl⟩
    refine ⟨t.map lowc, ?_⟩
    show _ = (t ++ sevens k).map lowc
    rw [List.map_append]
    congr 1
    unfold sevens
    rw [List.map_cons, List.map_replicate]; rfl
theorem low_kn {l : List Nat} (K : Kn l) : Kn (low l) where
  dig := fun c hc h => by
    obtain ⟨d, hd, rfl⟩ := List.mem_map.mp hc
    have hx : lowc d = d := by
      unfold PySem.Sre.isDigit at h
      simp only [Bool.and_eq_true, decide_eq_true_eq] at h
      unfold lowc at h ⊢
      split <;> rename_i q
      · rw [if_pos q] at h; (first | lia | omega)
      · rfl
    rw [hx] at h ⊢
    exact K.dig d hd h
  nl := fun h => by
    obtain ⟨d, hd, e⟩ := List.mem_map.mp h
    rw [lowc_out (by (first | lia | omega)) (by (first | lia | omega))] at e
    exact K.nl (e ▸ hd)
  four := by
    have : (low l).count 55 = l.count 55 := by
      show (l.map lowc).count 55 = _
      rw [List.count_eq_countP, List.countP_map, List.count_eq_countP]
      refine List.countP_congr fun c _ => ?_
      simp only [Function.comp_apply, beq_iff_eq]
      exact lowc_out (by (first | lia | omega)) (by (first | lia | omega))
    rw [this]; exact K.four
theorem low_ipv4 {l : List Nat} (K : Kn l) : Rx.ipv4 (mk (low l)) = Rx.ipv4 (mk l) := by
  rw [Bool.eq_iff_iff, ipv4_iff (low_kn K), ipv4_iff K]
  exact ⟨fun ⟨k, h1, h2⟩ => ⟨k, h1, low_suf.mp h2⟩, fun ⟨k, h1, h2⟩ => ⟨k, h1, low_suf.mpr h2⟩⟩
theorem low_hdn {l : List Nat} (K : Kn l) : hdn (low l) = hdn l := by
  have h1 : decide (low l ≠ []) = decide (l ≠ []) := by cases l <;> simp
  have h2 : decide ((low l).headD 0 ≠ 46) = decide (l.headD 0 ≠ 46) := by
    refine decide_eq_decide.mpr (not_congr ?_)
    cases l with
    | nil => exact Iff.rfl
    | cons c r => exact lowc_out (by (first | lia | omega)) (by (first | lia | omega))
  have h3 : decide ((low l).getLastD 0 ≠ 46) = decide (l.getLastD 0 ≠ 46) := by
    refine decide_eq_decide.mpr (not_congr ?_)
    rcases List.eq_nil_or_concat l with rfl | ⟨t, c, rfl⟩
    · exact Iff.rfl
    · show ((t.concat c).map lowc).getLastD 0 = 46 ↔ _
      rw [List.concat_eq_append, List.map_append, List.map_singleton, List.getLastD_concat, List.getLastD_concat]
      exact lowc_out (by (first | lia | omega)) (by (first | lia | omega))
  unfold hdn
  rw [low_ipv4 K, h1, h2, h3]
theorem far_iff {hs : List (List Nat)} {l : List Nat} (hl : l ∈ hs) : l ∈ farL hs ↔ (∃ b, l[b]? = some 46 ∧ 46 ∉ l.take b ∧ 46 ∈ l.drop (b + 1)) ∨ [46, 108, 111, 99, 97, 108] <:+ l := by
  unfold farL
  rw [List.mem_append, mem_kept, mem_kept, takes_two, takes_suf (P := [.lit 46, .lit 108, .lit 111, .lit 99, .lit 97, .lit 108]) (by simp [isP])]
  exact or_congr ⟨fun h => h.2, fun h => ⟨hl, h⟩⟩ ⟨fun h => h.2, fun h => ⟨hl, h⟩⟩
theorem not_take : ∀ l : List Nat, 46 ∉ l.take (l.idxOf 46)
  | [] => by simp
  | c :: r => by
    rw [List.idxOf_cons]
    by_cases h : c = 46
    · rw [h]; simp
    · have h' : (c == 46) = false := by simpa using h
      rw [h']
      simp only [cond_false, List.take_succ_cons, List.mem_cons, not_or]
      exact ⟨fun e => h e.symm, not_take r⟩
theorem idx_at {l : List Nat} (h : 46 ∈ l) : l[l.idxOf 46]? = some 46 ∧ 46 ∉ l.take (l.idxOf 46) ∧ l.drop (l.idxOf 46) = 46 :: l.drop (l.idxOf 46 + 1) := by
  have hlt := List.idxOf_lt_length_of_mem h
  have e : l[l.idxOf 46]'hlt = 46 := List.getElem_idxOf hlt
  exact ⟨by rw [List.getElem?_eq_getElem hlt, e], not_take l, by rw [List.drop_eq_getElem_cons hlt, e]⟩
theorem reach_ok {hs ks : List (List Nat)} {l : List Nat} (hl : l ∈ hs) (K : Kn l) (hk : low l ∈ ks) : reachL l = toldL hs (namedL ks) l ∧ (l ∈ farL hs → 46 ∈ l) := by
  have f46 : l ∈ farL hs → 46 ∈ l := fun h => by
    rcases (far_iff hl).mp h with ⟨b, h1, _⟩ | ⟨t, rfl⟩
    · exact List.mem_of_getElem? h1
    · simp
  refine ⟨?_, f46⟩
  have hn : low l ∈ namedL ks ↔ hdn l = true := by rw [named_iff hk (low_kn K), low_hdn K]
  unfold toldL reachL
  by_cases h46 : 46 ∈ l
  · obtain ⟨i1, i2, i3⟩ := idx_at h46
    rw [if_pos h46]
    have ei : (idx l 46 + 1).toNat = l.idxOf 46 + 1 := by unfold idx; rw [if_pos h46]; (first | lia | omega)
    rw [ei]
    dsimp only
    generalize hi : l.idxOf 46 = i at i1 i2 i3
    have hfar : l ∈ farL hs ↔ (46 ∈ l.drop (i + 1) ∨ l.drop (i + 1) = [108, 111, 99, 97, 108]) := by
      rw [far_iff hl]
      constructor
      · rintro (⟨b, b1, b2, b3⟩ | ⟨t, ht⟩)
        · have : b = i := by
            rcases Nat.lt_trichotomy b i with q | q | q
            · exact absurd (List.mem_of_getElem? (i := b) (by rw [List.getElem?_take, if_pos q]; exact b1)) i2
            · exact q
            · exact absurd (List.mem_of_getElem? (i := i) (by rw [List.getElem?_take, if_pos q]; exact i1)) b2
          exact .inl (this ▸ b3)
        · rcases Nat.lt_trichotomy i t.length with q | q | q
          · refine .inl ?_
            rw [← ht, List.drop_append_of_le_length (by (first | lia | omega))]
            simp
          · refine .inr ?_
            rw [← ht, q, ← List.drop_drop, List.drop_left]; rfl
          · exfalso
            refine i2 ?_
            rw [← ht]
            exact List.mem_of_getElem? (i := t.length) (by rw [List.getElem?_take, if_pos q, List.getElem?_append_right (Nat.le_refl _), Nat.sub_self]; rfl)
      · rintro (h | h)
        · exact .inl ⟨i, i1, i2, h⟩
        · refine .inr ⟨l.take i, ?_⟩
          rw [← h, ← i3, List.take_append_drop]
    by_cases hd : hdn l = true
    · by_cases hf : l ∈ farL hs
      · rw [if_pos (⟨hn.mpr hd, hf⟩ : low l ∈ namedL ks ∧ l ∈ farL hs), i3, if_pos]
        rw [hd, Bool.true_and, Bool.or_eq_true, decide_eq_true_eq, decide_eq_true_eq]
        exact hfar.mp hf
      · rw [if_neg (fun q : low l ∈ namedL ks ∧ l ∈ farL hs => hf q.2), if_neg]
        rw [hd, Bool.true_and, Bool.or_eq_true, decide_eq_true_eq, decide_eq_true_eq]
        exact fun q => hf (hfar.mpr q)
    · rw [if_neg (fun q : low l ∈ namedL ks ∧ l ∈ farL hs => hd (hn.mp q.1)), if_neg]
      rw [Bool.eq_false_iff.mpr hd, Bool.false_and]; decide
  · rw [if_neg h46, if_neg (fun q : low l ∈ namedL ks ∧ l ∈ farL hs => h46 (f46 q.2))]
theorem own_isP (l : List Nat) : ∀ i ∈ ownP l, isP i := fun i hi => by
  obtain ⟨c, _, rfl⟩ := List.mem_map.mp hi
  split <;> trivial
theorem own_sg (l : List Nat) : (ownP l).map sg = l := by
  unfold ownP
  rw [List.map_map]
  refine (List.map_congr_left fun c _ => ?_).trans (List.map_id l)
  show sg (if c = 42 ∨ c = 91 then It.cls c else It.lit c) = c
  split <;> rfl
theorem take_one {l : List Nat} : l.take 1 = [46] ↔ [46] <+: l := by
  cases l with
  | nil => simp
  | cons c r => simp [eq_comm]
theorem ends_ok {ls ks : List (List Nat)} {h r : List Nat} (hh : h ∈ ls) (kh : low h ∈ ks) (kr : low r ∈ ks) (Kh : Kn h) (Kr : Kn r) :
    umatch h r = decide (low h ∈ kept (ownP (low r)) (ls.map low) ++ endsL' r (ls.map low) (barredL ks)) := by
  have hm : low h ∈ ls.map low := List.mem_map_of_mem hh
  have h1 : low h ∈ kept (ownP (low r)) (ls.map low) ↔ low h = low r := by
    rw [mem_kept, takes_eq (own_isP _), own_sg]
    exact ⟨fun q => q.2.symm, fun q => ⟨hm, q.symm⟩⟩
  have h2 : low h ∈ endsL' r (ls.map low) (barredL ks) ↔ [46] <+: low r ∧ Rx.ipv4 (mk (low r)) = false ∧ low r <:+ low h ∧ Rx.ipv4 (mk (low h)) = false := by
    unfold endsL'
    by_cases q : (low r).take 1 = [46]
    · rw [if_pos q]
      have q' := take_one.mp q
      by_cases b : low r ∈ barredL ks
      · rw [if_pos b]
        have := (barred_iff kr (low_kn Kr)).mp b
        simp [this]
      · rw [if_neg b]
        have b' : Rx.ipv4 (mk (low r)) = false := Bool.eq_false_iff.mpr fun e => b ((barred_iff kr (low_kn Kr)).mpr e)
        rw [List.mem_filter, mem_kept, takes_suf (own_isP _), own_sg]
        simp only [Bool.not_eq_true', decide_eq_false_iff_not, barred_iff kh (low_kn Kh), Bool.not_eq_true]
        exact ⟨fun ⟨⟨_, a⟩, c⟩ => ⟨q', b', a, c⟩, fun ⟨_, _, a, c⟩ => ⟨⟨hm, a⟩, c⟩⟩
    · rw [if_neg q]
      have q' : ¬ [46] <+: low r := fun e => q (take_one.mpr e)
      simp [q']
  rw [Bool.eq_iff_iff, decide_eq_true_eq, List.mem_append, h1, h2]
  unfold umatch
  cases i1 : Rx.ipv4 (mk (low h)) <;> cases i2 : Rx.ipv4 (mk (low r))
  · by_cases q : [46] <+: low r
    · have q' : [46].isPrefixOf (low r) = true := List.isPrefixOf_iff_prefix.mpr q
      rw [if_pos (by rfl), if_pos q', List.isSuffixOf_iff_suffix]
      constructor
      · exact fun e => .inr ⟨q, rfl, e, rfl⟩
      · rintro (e | ⟨_, _, e, _⟩)
        · rw [e]; exact List.suffix_refl _
        · exact e
    · have q' : ¬ [46].isPrefixOf (low r) = true := fun e => q (List.isPrefixOf_iff_prefix.mp e)
      rw [if_pos (by rfl), if_neg q', decide_eq_true_eq]
      exact ⟨.inl, fun e => e.elim id fun e => absurd e.1 q⟩
  all_goals
    rw [if_neg (by decide), decide_eq_true_eq]
    refine ⟨.inl, fun e => e.elim id fun e => ?_⟩
    obtain ⟨_, e1, _, e2⟩ := e
    first | exact absurd e1 (by decide) | exact absurd e2 (by decide)
theorem at_iff {l k : List Nat} {i : Nat} : StrLaws.At (mk l) (mk k) (mk l).length i ↔ i ≤ l.length ∧ k <+: l.drop i := by
  rw [sAt_mk]
  constructor
  · rintro ⟨h1, h2⟩
    exact ⟨by (first | lia | omega), by rw [← h2]; exact List.take_prefix _ _⟩
  · rintro ⟨h1, h2⟩
    have hl := h2.length_le
    rw [List.length_drop] at hl
    exact ⟨by (first | lia | omega), (List.prefix_iff_eq_take.mp h2).symm⟩
theorem rfind_iff (l k : List Nat) : ¬ (Txt.rfind (mk l) (mk k) = -1 ∨ Txt.rfind (mk l) (mk k) = 0) ↔ ∃ b, 1 ≤ b ∧ b ≤ l.length ∧ k <+: l.drop b := by
  unfold Txt.rfind
  rcases StrLaws.last_spec (mk l) (mk k) with ⟨h1, h2⟩ | ⟨i, h1, h2, h3⟩
  · rw [h1]
    constructor
    · intro h; exact absurd (.inl rfl) h
    · rintro ⟨b, _, b2, b3⟩; exact absurd (at_iff.mpr ⟨b2, b3⟩) (h2 b)
  · rw [h1]
    obtain ⟨i1, i2⟩ := at_iff.mp h2
    constructor
    · intro h
      refine ⟨i, ?_, i1, i2⟩
      cases i with
      | zero => exact absurd (.inr rfl) h
      | succ i => (first | lia | omega)
    · rintro ⟨b, b1, b2, b3⟩ (h | h)
      · have h' : (i : Int) = -1 := h
        (first | lia | omega)
      · have h' : (i : Int) = 0 := h
        exact h3 b (by (first | lia | omega)) (at_iff.mpr ⟨b2, b3⟩)
theorem wide_ok {ls ks : List (List Nat)} {h r : List Nat} (hh : h ∈ ls) (kh : low h ∈ ks) (kr : (low r).drop 1 ∈ ks) (Kh : Kn h) (Kr : Kn ((low r).drop 1)) :
    dmatch h r = decide (low h ∈ kept (ownP (low r)) (ls.map low) ++ wideL r (ls.map low) (namedL ks)) := by
  have hm : low h ∈ ls.map low := List.mem_map_of_mem hh
  have h1 : low h ∈ kept (ownP (low r)) (ls.map low) ↔ low h = low r := by
    rw [mem_kept, takes_eq (own_isP _), own_sg]
    exact ⟨fun q => q.2.symm, fun q => ⟨hm, q.symm⟩⟩
  have h2 : low h ∈ wideL r (ls.map low) (namedL ks) ↔ [46] <+: low r ∧ hdn ((low r).drop 1) = true ∧ hdn (low h) = true ∧ ∃ b, 1 ≤ b ∧ b ≤ (low h).length ∧ low r <+: (low h).drop b := by
    unfold wideL
    by_cases q : (low r).take 1 = [46]
    · rw [if_pos q]
      have q' := take_one.mp q
      by_cases b : (low r).drop 1 ∈ namedL ks
      · rw [if_pos b]
        have b' := (named_iff kr Kr).mp b
        rw [List.mem_filter, mem_kept, takes_in (own_isP _), own_sg]
        simp only [decide_eq_true_eq, named_iff kh (low_kn Kh)]
        constructor
        · rintro ⟨⟨_, _, a⟩, c⟩; exact ⟨q', b', c, a⟩
        · rintro ⟨_, _, c, a⟩
          refine ⟨⟨hm, fun e => ?_, a⟩, c⟩
          obtain ⟨x, x1, x2, _⟩ := a
          rw [e] at x2; simp at x2; (first | lia | omega)
      · rw [if_neg b]
        have b' : ¬ hdn ((low r).drop 1) = true := fun e => b ((named_iff kr Kr).mpr e)
        constructor
        · intro e; cases e
        · rintro ⟨_, e, _⟩; exact absurd e b'
    · rw [if_neg q]
      have q' : ¬ [46] <+: low r := fun e => q (take_one.mpr e)
      constructor
      · intro e; cases e
      · rintro ⟨e, _⟩; exact absurd e q'
  rw [Bool.eq_iff_iff, decide_eq_true_eq, List.mem_append, h1, h2]
  unfold dmatch
  rw [Bool.or_eq_true, decide_eq_true_eq, Bool.and_eq_true, Bool.and_eq_true, Bool.and_eq_true, decide_eq_true_eq, rfind_iff, List.isPrefixOf_iff_prefix]
  exact or_congr Iff.rfl ⟨fun ⟨⟨⟨a, b⟩, c⟩, d⟩ => ⟨c, d, a, b⟩, fun ⟨c, d, a, b⟩ => ⟨⟨⟨a, b⟩, c⟩, d⟩⟩
end Pl

end
section
set_option Elab.async false
set_option maxRecDepth 100000
set_option maxHeartbeats 2000000
open PySem PySem.W PySem.Calls PySem.Builtin PyProof.Rows
namespace Pl
noncomputable def signs : List Nat := [97, 46, 66, 55, 42, 91, 108, 111, 99, 65, 76, 79, 67, 98]
structure Gd (l : List Nat) : Prop where
  sg : ∀ c ∈ l, c ∈ signs
  four : l.count 55 ≤ 4
  len : l.length ≤ 24
theorem Gd.sub {l k : List Nat} (g : Gd l) (h : k.Sublist l) : Gd k := ⟨fun c hc => g.sg c (h.subset hc), Nat.le_trans (h.count_le 55) g.four, Nat.le_trans h.length_le g.len⟩
theorem low_signs : ∀ c ∈ signs, lowc c ∈ signs ∧ (lowc c = 55 ↔ c = 55) ∧ upc c ∈ signs ∧ (upc c = 55 ↔ c = 55) ∧ c < 128 ∧ c ≠ 10 ∧ (PySem.Sre.isDigit c = true → c = 55) ∧ (lowc c ∈ Esc.okc ∨ lowc c = 42 ∨ lowc c = 91) := by decide
theorem Gd.map {l : List Nat} {f : Nat → Nat} (g : Gd l) (h : ∀ c ∈ signs, f c ∈ signs ∧ (f c = 55 ↔ c = 55)) : Gd (l.map f) where
  sg := fun c hc => by
    obtain ⟨d, hd, rfl⟩ := List.mem_map.mp hc
    exact (h d (g.sg d hd)).1
  four := by
    rw [List.count_eq_countP, List.countP_map]
    refine Nat.le_trans (Nat.le_of_eq ?_) g.four
    rw [List.count_eq_countP]
    refine List.countP_congr fun c hc => ?_
    simp only [Function.comp_apply, beq_iff_eq]
    exact (h c (g.sg c hc)).2
  len := by rw [List.length_map]; exact g.len
theorem Gd.low {l : List Nat} (g : Gd l) : Gd (low l) := g.map fun c hc => ⟨(low_signs c hc).1, (low_signs c hc).2.1⟩
theorem Gd.up {l : List Nat} (g : Gd l) : Gd (up l) := g.map fun c hc => ⟨(low_signs c hc).2.2.1, (low_signs c hc).2.2.2.1⟩
theorem Gd.kn {l : List Nat} (g : Gd l) : Kn l := ⟨fun c hc => (low_signs c (g.sg c hc)).2.2.2.2.2.2.1, fun h => (low_signs 10 (g.sg 10 h)).2.2.2.2.2.1 rfl, g.four⟩
theorem Gd.asc {l : List Nat} (g : Gd l) : Asc l := fun c hc => (low_signs c (g.sg c hc)).2.2.2.2.1
theorem Gd.cok {l : List Nat} (g : Gd l) : Cok (Mine.low l) := fun c hc => by
  obtain ⟨d, hd, rfl⟩ := List.mem_map.mp hc
  exact (low_signs d (g.sg d hd)).2.2.2.2.2.2.2
theorem piece_ok (n : Nat) : (∀ c ∈ pieceL n, c ∈ signs) ∧ (pieceL n).count 55 ≤ 1 := by
  unfold pieceL
  split <;> decide
theorem host_gd (n : Nat) : Gd (hostL n) where
  sg := fun c hc => by
    obtain ⟨p, _, hp⟩ := List.mem_flatMap.mp hc
    exact (piece_ok _).1 c hp
  four := by
    have h : ∀ ps : List Nat, (ps.flatMap fun p => pieceL (n / 5 / 8 ^ p % 8)).count 55 ≤ ps.length := fun ps => by
      induction ps with
      | nil => simp
      | cons p r ih =>
        rw [List.flatMap_cons, List.count_append, List.length_cons]
        have := (piece_ok (n / 5 / 8 ^ p % 8)).2
        (first | lia | omega)
    have := h (List.range (n % 5))
    rw [List.length_range] at this
    unfold hostL
    (first | lia | omega)
  len := hostL_len n
theorem cut_sub (n : Nat) (h : List Nat) : (cutL n h).Sublist h := by
  unfold cutL
  first | exact (List.take_sublist _ _).trans (List.drop_sublist _ _) | exact (List.drop_sublist _ _).trans (List.take_sublist _ _)
theorem rule_gd (n : Nat) {h : List Nat} (g : Gd h) : Gd (ruleL n h) := by
  have gc := g.sub (cut_sub n h)
  unfold ruleL
  split
  · exact gc.up
  · split
    · exact gc.low
    · exact gc
theorem nil_gd : Gd [] := ⟨nofun, by simp, by simp⟩
theorem hosts_gd (zs : List Int) : ∀ h ∈ hostsL zs, Gd h := fun h hh => by
  obtain ⟨n, _, rfl⟩ := List.mem_map.mp hh
  exact host_gd n
theorem rules_gd (zs : List Int) : ∀ r ∈ rulesL zs, Gd r := fun r hr => by
  obtain ⟨n, _, rfl⟩ := List.mem_map.mp hr
  refine rule_gd n ?_
  rw [List.getD_eq_getElem?_getD]
  cases q : (hostsL zs)[n % 4]? with
  | none => exact nil_gd
  | some h => exact hosts_gd zs h (List.mem_of_getElem? q)
theorem small (zs : List Int) : (∀ h ∈ hostsL zs, h.length ≤ 100 ∧ Asc h) ∧ ∀ r ∈ rulesL zs, r.length ≤ 100 ∧ Asc r ∧ Cok (Mine.low r) :=
  ⟨fun h hh => ⟨Nat.le_trans (hosts_gd zs h hh).len (by (first | lia | omega)), (hosts_gd zs h hh).asc⟩, fun r hr => ⟨Nat.le_trans (rules_gd zs r hr).len (by (first | lia | omega)), (rules_gd zs r hr).asc, (rules_gd zs r hr).cok⟩⟩
theorem known_gd {hs rs ls : List (List Nat)} (H : ∀ h ∈ hs, Gd h) (R : ∀ r ∈ rs, Gd r) (p : ls.Perm (St.fm hs)) : ∀ l ∈ ls ++ behindL ls ++ rs ++ rs.map (List.drop 1), Gd l := fun l hl => by
  have hm : ∀ n ∈ ls, Gd n := fun n hn => H n (St.mem_fm.mp (p.mem_iff.mp hn))
  rcases List.mem_append.mp hl with hl | hl
  · rcases List.mem_append.mp hl with hl | hl
    · rcases List.mem_append.mp hl with hl | hl
      · exact hm l hl
      · obtain ⟨h, hh, e⟩ := List.mem_filterMap.mp hl
        split at e
        · cases e; exact (hm h hh).sub (List.drop_sublist _ _)
        · cases e
    · exact R l hl
  · obtain ⟨r, hr, rfl⟩ := List.mem_map.mp hl
    exact (R r hr).sub (List.drop_sublist _ _)
theorem law_ok {hs rs : List (List Nat)} (H : ∀ h ∈ hs, Gd h) (R : ∀ r ∈ rs, Gd r) : LawOk hs rs := by
  have inK : ∀ {ls ks : List (List Nat)}, ks.Perm (St.fm (knownL ls rs)) → ∀ l ∈ ls ++ behindL ls ++ rs ++ rs.map (List.drop 1), Mine.low l ∈ ks := fun q l hl => q.mem_iff.mpr (St.mem_fm.mpr (List.mem_map_of_mem hl))
  refine ⟨fun ls ks p _ q _ n hn => ?_, fun ls ks p _ q _ n hn => ?_, fun ls ks p _ q _ r hr h hh => ?_, fun ls ks p _ q _ r hr h hh => ?_⟩
  · obtain ⟨l, hl, rfl⟩ := List.mem_map.mp (St.mem_fm.mp (q.mem_iff.mp hn))
    exact names_ok hn (low_kn (known_gd H R p l hl).kn)
  · have hn' : n ∈ ls ++ behindL ls ++ rs ++ rs.map (List.drop 1) := List.mem_append_left _ (List.mem_append_left _ hn)
    exact reach_ok hn (known_gd H R p n hn').kn (inK q n hn')
  · have hh' : h ∈ ls ++ behindL ls ++ rs ++ rs.map (List.drop 1) := List.mem_append_left _ (List.mem_append_left _ (List.mem_append_left _ hh))
    have hr' : r.drop 1 ∈ ls ++ behindL ls ++ rs ++ rs.map (List.drop 1) := List.mem_append_right _ (List.mem_map_of_mem hr)
    have e : (Mine.low r).drop 1 = Mine.low (r.drop 1) := List.map_drop.symm
    refine wide_ok hh (inK q h hh') ?_ (known_gd H R p h hh').kn ?_
    · rw [e]; exact inK q _ hr'
    · rw [e]; exact low_kn (known_gd H R p _ hr').kn
  · have hh' : h ∈ ls ++ behindL ls ++ rs ++ rs.map (List.drop 1) := List.mem_append_left _ (List.mem_append_left _ (List.mem_append_left _ hh))
    have hr' : r ∈ ls ++ behindL ls ++ rs ++ rs.map (List.drop 1) := List.mem_append_left _ (List.mem_append_right _ hr)
    exact ends_ok hh (inK q h hh') (inK q r hr') (known_gd H R p h hh').kn (known_gd H R p r hr').kn
theorem plain (zs : List Int) : LawOk (hostsL zs) (rulesL zs) := law_ok (hosts_gd zs) (rules_gd zs)
end Pl
theorem holds0 : PySem.Challenge.rw_in0254_01.Holds := law_holds Pl.plain Pl.small

end
end Mine
set_option maxRecDepth 100000 in
theorem PySem.Challenge.cw_in0254_01_holds : PySem.Challenge.rw_in0254_01.Holds :=
  Mine.holds0
