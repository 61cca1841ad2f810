import PyProof.Rows.All
import Wide.All
import OpenK.AllK
import Wide.FinOn
import PySem.Challenge.RW_ew0039_01
set_option Elab.async false
set_option maxRecDepth 100000
set_option maxHeartbeats 8000000
section
open PySem PySem.W PyProof.Rows
namespace Ruc
open_top hd for PySem.Challenge.rw_ew0039_01
end Ruc
end
section
open PySem PySem.W PySem.Calls PyProof.Rows
namespace Ruc
/-- parts of the law, by projection out of the given program -/
def lawStmt : Stmt := match PySem.Challenge.pw_ew0039_01.main.body with | [_, _, _, _, _, _, st] => st | _ => .Pass default
def lawScope : Scope := match lawStmt with | .FunctionDef _ _ _ _ _ _ sc _ _ _ => sc | _ => default
def lawBody : List Stmt := match lawStmt with | .FunctionDef _ _ b _ _ _ _ _ _ _ => b | _ => []
def loopBody : List Stmt := match lawBody with | [_, _, _, _, _, _, _, .For _ _ b _ _, _, _, _, _] => b | _ => []
def afterLoop : List Stmt := match lawBody with | [_, _, _, _, _, _, _, _, a, b, c, d] => [a, b, c, d] | _ => []
def lamExpr : PySem.Expr := match lawBody with | [_, _, _, _, .If _ _ [.Assign _ (.Call _ [_, e] _ _) _] _, _, _, _, _, _, _, _] => e | _ => .Name default default
def lamParams : Arguments := match lamExpr with | .Lambda p _ _ _ => p | _ => default
def lamBody : PySem.Expr := match lamExpr with | .Lambda _ b _ _ => b | _ => .Name default default
def lamScope : Scope := match lamExpr with | .Lambda _ _ s _ => s | _ => default
theorem lawScope_kind : lawScope.kind = .function := by rfl
theorem lamScope_kind : lamScope.kind = .function := by rfl
end Ruc
end
section
open PySem PySem.W PySem.Calls PyProof.Rows
set_option maxHeartbeats 400000
namespace Ruc
theorem fill : PySem.Challenge.rw_ew0039_01.row.prog = PySem.Challenge.rw_ew0039_01.row.prog ∧ hd.heap_39 = hd.heap_39 := by k_fill; exact ⟨rfl, rfl⟩
abbrev Ar (D U : Nat) (g : Option (List Code)) (e : Env) (outer : List Env) : Around := ⟨none, D, some (e :: outer), g, U⟩
abbrev prg : Program := PySem.Challenge.rw_ew0039_01.row.prog
/-- what a call from the frame e1 stands on; n more frames have room -/
structure Cx (n : Nat) (w : World) (A₀ : Around) (base h₀ : Heap) (outer : List Env) (e1 : Env) (L : Addr) (loose : List Str) (mean : ExcName → Option Value) (mg mb : Str → Option Value) (D U : Nat) : Prop where
  B : Below A₀ base outer h₀
  X : (hd.heap_39 w.params).In h₀
  T : Top topProg loose mean mg mb h₀
  hf : e1.frame = some L
  hk : e1.scope.kind = .function
  hD : D + n < recursionLimit
  hU : U + 10 * n < cLine
local macro_rules | `(tactic| k_room) => `(tactic| (simp only [depth_under_make, depth_under_kw, depth_in1, depth_deeper, depth_caller, Ar]; omega))
local macro_rules | `(tactic| k_mem) => `(tactic| assumption)
abbrev lamObj (qual : Str) (cT : Addr) (pm : Value) (c' : Addr) (ctv : Value) : Obj := kla_obj (Str.ofString "<lambda>") qual lamParams lamBody lamScope [(Str.ofString "told", cT)] pm c' ctv
local macro_rules | `(tactic| walk_at "eval Name") => `(tactic| (k_here; k_dflt (refine' nameX_F ?N ?c ?m ?d ?_ ?a ?b; (case a => rfl); (case b => rfl); (case N => k_asm); (case c => rfl); (case m => k_mem); (case d => k_asm); k_whole)))
local macro_rules | `(tactic| walk_at "call builtin:list.append") => `(tactic| (k_here; k_dflt (refine' append_K ?k1 ?k2 ?k3 ?_ ?z; (case k1 => k_asm); (case k2 => k_asm); (case k3 => assumption); (case z => (rw [PySem.sizeLine_eq]; simp only [List.length_append, List.length_cons, List.length_nil, List.size_toArray]; omega)); k_whole); intro h' F' N'; (try k_sweep)))
section
variable {w : World} {A₀ : Around} {base h₀ : Heap} {outer : List Env} {e1 : Env} {L : Addr} {loose : List Str} {mean : ExcName → Option Value} {m mg mb : Str → Option Value} {D U n : Nat}
  {g : Option (List Code)} {s : Shared} {E : Value → Shared → Prop}
theorem lam_call {Q : Value → Shared → Prop} {f tL cT c' : Addr} {vsT : List Value} {nT : Nat} {oT oc : Obj} {news news' : List (Addr × Obj)} {qual : Str} {pm ctv v : Value} {vs : Array Value} {t : Tok}
    (cx : Cx (n + 1) w A₀ base h₀ outer e1 L loose mean mg mb D U) (F : Fr h₀ L s.heap m) (N : News h₀ L s.heap news) (U1 : Upd tL (W.listOf vsT.toArray nT) (W.listOf (vsT.toArray.push v) (nT + 1)) news news')
    (hmt : (tL, W.listOf vsT.toArray nT) ∈ news) (hmT : (cT, oT) ∈ news) (hoT : oT.data = .cell (some (.ref tL)))
    (hmf : (f, lamObj qual cT pm c' ctv) ∈ news) (hmc : (c', oc) ∈ news) (hoc : oc.data = .fields vs) (hvs : vs[1]? = some (.str qual t)) (hsz : vsT.length ≤ 1000)
    (h : ∀ h' tk, Fr h₀ L h' m → News h₀ L h' news' → Q .none { s with heap := h', toks := tk }) :
    wpAny (model prg w) (Ar D U g e1 outer) (call (.ref f) [v]) Q E s := by
  obtain ⟨B, X, T, hf1, hk1, hD, hU⟩ := cx
  dsimp only [lamObj, lamParams, lamBody, lamScope, lamExpr, lawBody, lawStmt, PySem.Challenge.pw_ew0039_01] at hmf
  w_on
  w_strict (refine wpAny_call ?_; (refine' kla_code B F X N T rfl hf1 hk1 ?k6 ?k7 ?k8 ?k9 ?kB ?_ ?c2 ?c3 ?c4 ?c5; (case k6 => k_mem); (case k7 => exact codeRec_news (by k_asm) (by k_mem) (by assumption) (by assumption)); (case k8 => k_room); (case k9 => exact rfl); (case c5 => decide); (case kB => exact locs rfl); (case c2 => exact rfl); (case c3 => exact rfl); (case c4 => exact rfl); k_whole; intro g' L' h' FG' F' N' B' X' T'; (try dsimp only); (try k_lift B'); (try k_fold)))
  w_strict k_steps
  rename Fr h₀ _ _ _ => kF
  rename News h₀ _ _ _ => kN
  exact h _ _ kF kN
end
end Ruc
end
section
open PySem PySem.W PySem.Calls PySem.Spec PyProof.Rows
set_option maxHeartbeats 400000
namespace Ruc
section
variable {prog : Program} {w : World} {A₀ A : Around} {s : Shared} {base h₀ : Heap} {L : Addr} {m : Str → Option Value} {e1 : Env} {news : List (Addr × Obj)} {K : Frag} {p : Program} {loose : List Str} {mean : ExcName → Option Value} {mg mb : Str → Option Value}
  {R : Result → Shared → Prop} {name qual : Str} {params : Arguments} {body : List Stmt} {scope : Scope} {dV kV doc pm cdv ct oc : Value} {an od : Option Addr} {osl : Array (Option Value)} {f : Addr} {args : Args} {binds : List (Str × Value)}
/-- a def that bears a try is called from the outermost frame, whatever environment that frame has -/
theorem enterS0 (B : Below A₀ base [] h₀) (F : Fr h₀ L s.heap m) (X₀ : K.In h₀) (N : News h₀ L s.heap news) (T : Top p loose mean mg mb h₀) (hA : A.frames = some [e1]) (hf1 : e1.frame = some L) (hk1 : e1.scope.kind = .function)
    (ho : K.lookup f = some ⟨oc, od, .func (fnOf name qual params body scope dV kV doc pm an cdv ct), osl⟩) (hcd : codeIn K cdv qual = true) (hroom : A.depth < recursionLimit)
    (hbind : BindsTo s (fnOf name qual params body scope dV kV doc pm an cdv ct) args binds) (hloc : ∀ y ∈ binds, scope.names.lookup y.1 = some .local)
    (h : ∀ g L' h₁, Fr h₀ L g m → Fr g L' h₁ (fun y => binds.reverse.lookup y) → News g L' h₁ news → Below A base [e1] g → K.In g → Top p loose mean mg mb g → KtsDicts ([e1].filterMap (·.frame)) g →
      wpAny (model prog w) (A.deeper (envOf qual scope L' f cdv)) (execs body (envOf qual scope L' f cdv))
        (fun fl s' => LeaveS0 ([e1].filterMap (·.frame)) h₀ L m g R (match fl with | .ret v => v | _ => .none) s')
        (fun e s' => wpAny (model prog w) (A.deeper (envOf qual scope L' f cdv)) (leaving (envOf qual scope L' f cdv) e) (fun _ s'' => R (.error e) s'') (fun e' s'' => R (.error e') s'') s')
        { s with heap := h₁, toks := s.toks + binds.length })
    (hco : scope.isCoroutine = false) (hgen : scope.isGenerator = false) (hk : scope.kind = .function)
    (hcell : ∀ x ∈ scope.names, x.2 ≠ .cell) : codeAny (model prog w) A (.call (.ref f) args) R s := by
  have X := X₀.keeps F.keep
  obtain ⟨FG, BG, st, _⟩ := groundX (R := R) B F N hA hf1 hk1
  have hfs : [e1].filterMap (·.frame) = [L] := by simp [hf1]
  refine codeAny_call_def (fd := fnOf name qual params body scope dV kV doc pm an cdv ct) (body := body) (binds := binds) hroom (X _ _ ho) rfl (T.nolimit.keeps F.keep) (codeRec_of X hcd) rfl hbind hcell hloc (fun h₁ hns hk₁ => ?_) hco hgen hk
  obtain ⟨oL, es, ep, hL, hLd, hLk, hLf⟩ := id FG.ns
  have hD : KtsDicts ([e1].filterMap (·.frame)) (hideAll s.heap (news.map (·.1))) := by
    rw [hfs]; intro b hb; rw [List.mem_singleton.mp hb]; exact ⟨oL, es, ep, hL, hLd⟩
  have hL0 : h₀.get? L = none := Heap.get?_none_of_le F.above
  refine wpAny_mono (h _ s.heap.objs.size h₁ FG ⟨hns, fun b o e => hk₁ b o (of_hideAll _ e), Nat.le_of_eq (hideAll_size _ _)⟩
    (fun p hp => ⟨hk₁ _ _ (N p hp).1, Nat.ne_of_lt (Heap.lt_size (N p hp).1), hideAll_none _ (List.mem_map_of_mem hp)⟩) BG (X₀.keeps st) (T.keeps st) hD) (fun fl s' hl => ?_) fun _ _ y => y
  obtain ⟨g', L', m', news', T', F', N', k⟩ := hl
  rw [hfs] at T'
  obtain ⟨sl, hs⟩ := T'.frame L oL hL (List.mem_singleton.mpr rfl)
  have up : ∀ b o, h₀.get? b = some o → g'.get? b = some o := fun b o e => by
    refine T'.other b o (st b o e) fun hm => ?_
    rw [List.mem_singleton.mp hm, hL0] at e
    cases e
  refine k ⟨⟨_, es, ep, F'.keep _ _ hs, hLd, hLk, hLf⟩, fun b o e => F'.keep b o (up b o e), F.above⟩ fun q hq => ⟨(N' q hq).1, fun e => ?_, ?_⟩
  · have z := (N' q hq).2.2
    rw [e, hs] at z
    cases z
  · cases e : h₀.get? q.1 with
    | none => rfl
    | some o => have z := (N' q hq).2.2; rw [up _ _ e] at z; cases z
end
section
variable {prog : Program} {w : World} {A₀ : Around} {E : Value → Shared → Prop} {s' : Shared} {base g h : Heap} {outer : List Env} {L a e : Addr} {m : Str → Option Value} {name : Str} {scope : Scope} {cd : Value}
  {b₀ : Stmt} {suite : List Stmt} {pos np : Pos} {rest : List ExceptHandler} {Q : Flow → Shared → Prop} {news : List (Addr × Obj)} {KF : Frag}
  {p : Program} {loose : List Str} {mean : ExcName → Option Value} {mg mb : Str → Option Value} {x : Str} {X T' : String}
/-- an exception that the frame itself has just raised, taken by the frame's own clause (a built-in class, no name) -/
theorem caught_here (hx0 : Heap.NewExc h s'.heap e X) (F : Fr g L h m) (N : News g L h news) (K : Below A₀ base outer g) (XB : KF.In base) (TB : Top p loose mean mg mb base) (D : KtsDicts (outer.filterMap (·.frame)) g)
    (ex : nsIn KF mainGlobals x = some none) (hv : bootBuiltins x = some (.type T')) (hn' : x ≠ "__name__")
    (hexc : isSubtype (.type T') (.type "BaseException") = pure true) (hnt : isSubtype (.type ((Manifest.find? T').elim "type" fun y => y.metatype)) (.type "tuple") = pure false) (hsub : isSubtype (.type X) (.type T') = pure true)
    (k : ∀ h' g', KtsTurn (outer.filterMap (·.frame)) g g' → Fr g' L h' m → News g' L h' news → Below A₀ base outer g' → KF.In g' → Top p loose mean mg mb g' → KtsDicts (outer.filterMap (·.frame)) g' →
      wpAny (model prog w) ((A₀.deeper (envOf name scope L a cd)).mark (some (.ref e))) (execs (b₀ :: suite) (envOf name scope L a cd)) Q E { s' with heap := h' })
    (hk : scope.kind = .function := by rfl) (hx : (envOf name scope L a cd).kindOf x = some .globalImplicit := by rfl) (hd : (x == ("__debug__" : Str)) = false := by decide)
    (hE : PassesOwnAt (model prog w) ((A₀.deeper (envOf name scope L a cd)).mark (some (.ref e))) (A₀.deeper (envOf name scope L a cd)) (envOf name scope L a cd) E := by passes_own) :
    wpAny (model prog w) (A₀.deeper (envOf name scope L a cd)) (noteFrame (.ref e) (envOf name scope L a cd))
      (fun _ s₂ => wpAny (model prog w) (A₀.deeper (envOf name scope L a cd)) (setFlight (.ref e) none) (fun _ s₃ =>
        wpAny (model prog w) (A₀.deeper (envOf name scope L a cd)) (handleBy (.ref e) (envOf name scope L a cd) (.ExceptHandler (some (.Name x np)) none (b₀ :: suite) pos :: rest)) Q E s₃) E s₂) E s' := by
  have K' := K.push (name := name) (a := a) (cd := cd) F hk
  have hin : ∀ env ∈ (envOf name scope L a cd :: outer), ∀ b, env.frame = some b → b ∈ (envOf name scope L a cd :: outer).filterMap (·.frame) := fun env he b hb => List.mem_filterMap.mpr ⟨env, he, hb⟩
  obtain ⟨Bb, hBb⟩ : ∃ Bb, Bb = hideAll h ((envOf name scope L a cd :: outer).filterMap (·.frame)) := ⟨_, rfl⟩
  have hBG : ∀ b o, h.get? b = some o → b ∉ (envOf name scope L a cd :: outer).filterMap (·.frame) → Bb.get? b = some o := fun b o e nm => by rw [hBb]; exact hideAll_get _ e nm
  have hNs : ∀ q ∈ news, q.1 ∉ (envOf name scope L a cd :: outer).filterMap (·.frame) := fun q hq hm => by
    obtain ⟨env, he, hf⟩ := List.mem_filterMap.mp hm
    rcases List.mem_cons.mp he with rfl | he
    · exact (N q hq).2.1 (Option.some.inj hf).symm
    · obtain ⟨o, ho, _⟩ := (K.frames.mem (List.mem_filterMap.mpr ⟨env, he, hf⟩)).2
      rw [(N q hq).2.2] at ho; cases ho
  have hl : ∀ q ∈ news, Bb.get? q.1 = some q.2 := fun q hq => hBG _ _ (N q hq).1 (hNs q hq)
  have hL : Bb.get? L = none := by rw [hBb]; exact hideAll_none _ (List.mem_cons_self)
  obtain ⟨ob, tp, he, hcls, hdt⟩ := hx0.there
  have hen : Bb.get? e = none := by
    cases q : Bb.get? e with
    | none => rfl
    | some o => rw [hBb] at q; have := of_hideAll _ q; rw [hx0.new] at this; cases this
  have up : Bb.StaysIn s'.heap := fun b o q => hx0.keeps b o (by rw [hBb] at q; exact of_hideAll _ q)
  have hff : s'.heap.FunFrames Bb (envOf name scope L a cd :: outer) := by
    rw [hBb]
    exact (funFrames_hide K'.frames hin).of_keeps fun b o hb _ => ⟨o, hx0.keeps b o hb, rfl⟩
  unfold noteFrame
  simp only [show (envOf name scope L a cd).frame = some L from rfl]
  refine wpAny_bind (wpAny_field he hdt (x := .none) rfl ?_)
  rw [if_neg (by decide)]
  refine wpAny_entryW (a0 := tp) K'.stack hff rfl he up hen hdt (by show 1 < 6; decide) rfl fun h₄ hN => ?_
  obtain ⟨k1, k2, k3, hsm₄⟩ := hN
  rw [hcls] at k3
  refine wpAny_landsW (l := envOf name scope L a cd :: outer) ⟨k1, hen, k2, k3⟩ fun h₅ hheld hsm₅' => ?_
  have hsm₅ : h.UpToSlots h₅ := ((Heap.UpToSlots.of_keeps hx0.keeps).trans hsm₄).trans hsm₅'
  obtain ⟨g₅, T₅, F₅, K₅⟩ := kts_ground K F hBG hheld.1 hsm₅
  have X₅ : KF.In g₅ := XB.keeps K₅.stays
  have P₅ : TopRead p loose mg mb g₅ := topRead_of (TB.keeps K₅.stays)
  obtain ⟨ob', hob, hobc⟩ := hheld.there
  refine wpAny_handleBy_builtin (X := X) (T := T') (b := true) hexc hnt hsub (name_B F₅ X₅ P₅ ex hv hn' ⟨rfl, ⟨ob', hob, hobc⟩, ?_⟩ hk hx hd)
  refine lands_againW hheld fun h₆ hfl₆ hsm₆ => ?_
  obtain ⟨g₆, T₆, F₆, K₆⟩ := kts_ground K F hBG hfl₆.1 (hsm₅.trans hsm₆)
  have Nl : News g₆ L h₆ news := fun q hq => ⟨hfl₆.1 _ _ (hl q hq), (N q hq).2.1, T₆.none_ _ (N q hq).2.2⟩
  exact wpAny_passesOwnAt hE (k h₆ g₆ T₆ F₆ Nl K₆ (XB.keeps K₆.stays) (TB.keeps K₆.stays) (D.turn T₆))
end
end Ruc
end
section
open PySem PySem.W PySem.Calls PySem.Spec PyProof.Rows
set_option maxHeartbeats 1000000
namespace Ruc
theorem fill3 : PySem.Challenge.rw_ew0039_01.row.prog = PySem.Challenge.rw_ew0039_01.row.prog ∧ hd.heap_39 = hd.heap_39 := by k_fill; exact ⟨rfl, rfl⟩
local macro_rules | `(tactic| walk_at "getMethod ref") => `(tactic| (k_here; k_dflt (refine' getMethod_tab_any (knd := PySem.intKind _ _) (enc := PyData.int) ?k1 ?k2 ?_; (case k1 => exact rfl); (case k2 => k_tabat); k_whole)))
local macro_rules | `(tactic| k_room) => `(tactic| (simp only [depth_under_make, depth_under_kw, depth_in1, depth_deeper, depth_caller, Ar]; omega))
local macro_rules | `(tactic| k_mem) => `(tactic| assumption)
local macro_rules | `(tactic| k_all) => `(tactic| assumption)
abbrev selfDict (w : World) (t1 t2 t3 : Tok) (mv dv : Value) (d : Addr) (nn : Nat) : Obj := dictOf [⟨PyData.keyHash w.params (Str.ofString "_maxsize"), .str (Str.ofString "_maxsize") t1, mv⟩, ⟨PyData.keyHash w.params (Str.ofString "dispose_func"), .str (Str.ofString "dispose_func") t2, dv⟩, ⟨PyData.keyHash w.params (Str.ofString "_container"), .str (Str.ofString "_container") t3, .ref d⟩] nn
theorem pop_miss {prog : Program} {w : World} {A : Around} {E : Value → Shared → Prop} {s : Shared} {d : Addr} {c : List (Int × Int)} {k : Int} {tk : Tok} {Q : Value → Shared → Prop} (hh : A.handled = none) (T : IntTab prog w s.heap d (kdfD c)) (hk : kdfHas c k = false)
    (h : ∀ h' e, Heap.NewExc s.heap h' e "KeyError" → E (.ref e) { s with heap := h', toks := s.toks + 1 }) : wpAny (model prog w) A (call (.builtin "dict.pop") [.ref d, .int k tk]) Q E s := by
  obtain ⟨lo, kvs, hd, hf⟩ := T
  exact call_meetsIn PySem.F.slot_dict_pop hd.typeIs PySem.F.entry_dict_pop (PySem.F.args_dict_pop_2 _ _) (meets_dict_pop_missing (PySem.intKind prog w) d (intKind_is _ _ _ _) lo rfl) ⟨hh, kvs, hd, hf.none_of_lookup PyProof.V.same_int (kdfD_none hk), h⟩
local macro_rules | `(tactic| walk_at "call builtin:dict.pop") => `(tactic| (k_here; k_dflt (refine pop_miss (by rfl) (by k_tabat) (by assumption) ?_); intro h' e' x'))
local macro_rules | `(tactic| walk_at "leaving ref") => `(tactic| (k_here; (refine' leave_newS ?k1 ?k0 ?k2 ?k3 ?_; (case k0 => assumption); (case k2 => assumption); (case k1 => assumption); (case k3 => k_asm); k_whole; intro h' S' R' U'; (try dsimp only at S' R' U' ⊢))))
theorem fn_noBool : typeLookup (.type "function") "__bool__" = pure none := by rw [typeLookup_type, builtinLookup_eq_fast]; kernel_rfl
theorem fn_noLen : typeLookup (.type "function") "__len__" = pure none := by rw [typeLookup_type, builtinLookup_eq_fast]; kernel_rfl
theorem truthy_fn {M : Model} {A : Around} {E : Value → Shared → Prop} {s : Shared} {f : Addr} {Q : Bool → Shared → Prop} (hT : s.TypeIs (.ref f) "function") (h : Q true s) : wpAny M A (truthy (.ref f)) Q E s := by
  unfold truthy
  refine wpAny_bind (wpAny_callSpecial?_none (name := Str.ofString "__bool__") hT fn_noBool ?_)
  unfold specialOf
  refine wpAny_bind (wpAny_bind (wpAny_typeOf hT ?_))
  refine wpAny_of_eq fn_noLen (wpAny_pure ?_)
  exact h
/-- a method is asked of an object; its class has none of that name -/
theorem method_attr {prog : Program} {w : World} {A : Around} {E : Value → Shared → Prop} {s : Shared} {K : Frag} {x C : Addr} {ox : Obj} {od : Option Obj} {name : Str} {pl : Sem Bool} {Q : Value × List Value → Shared → Prop} (X : K.In s.heap) (I : InstAt s.heap x ox C od)
    (hga : findIn K (.ref C) "__getattribute__" = some (some (.builtin "object.__getattribute__"))) (hk : findIn K (.ref C) "__getattr__" = some none) (hn : findIn K (.ref C) name = some none)
    (h : wpAny (model prog w) A (getAttr (.ref x) name) (fun v => Q (v, [])) E s) : wpAny (model prog w) A (getMethod (.ref x) name pl) Q E s := by
  have hcan := PySem.F.canon_object_ga
  unfold getMethod specialOf
  refine wpAny_bind (wpAny_bind (I.type.here ((looks_findIn X hga).here ?_)))
  dsimp only
  rw [hcan, if_neg (by decide)]
  refine wpAny_bind (wpAny_bind (I.type.here ((looks_findIn X hk).here ?_)))
  refine wpAny_bind (wpAny_bind (I.type.here ((looks_findIn X hn).here ?_)))
  exact wpAny_bind (wpAny_mono h (fun v s' hv => wpAny_pure hv) fun _ _ e => e)
local macro_rules | `(tactic| walk_at "truthy ref") => `(tactic| (k_here; k_dflt (refine truthy_fn ⟨_, News.get (by k_asm) (by k_mem), rfl⟩ ?_)))
local macro_rules | `(tactic| walk_at "getMethod ref") => `(tactic| (k_here; (with_reducible show wpAny _ _ (getMethod (Value.ref _) (Str.ofString "dispose_func") _) _ _ _); k_dflt (refine' method_attr ?k1 ?k2 ?k3 ?k4 ?k5 ?_; (case k1 => k_in); (case k2 => k_inst); (case k3 => k_is); (case k4 => k_is); (case k5 => k_is); k_whole)))
local macro_rules | `(tactic| walk_at "callWith ref") => `(tactic| (k_here; k_dflt (refine' callWith_F ?k1 ?_; (case k1 => exact FnAt.of (by k_asm) (by k_mem)); k_whole)))
local macro_rules | `(tactic| walk_at "FnAt") => `(tactic| (k_dflt (exact FnAt.of (by k_asm) (by k_mem))))
local macro_rules | `(tactic| walk_at "call ref") => `(tactic| (k_here; (dsimp only [List.nil_append, List.cons_append]); k_dflt (refine' lam_call (n := 0) ?cx ?F ?N ?U ?m1 ?m2 ?oT ?m3 ?m4 ?oc ?vs ?sz ?_; (case cx => exact ⟨by assumption, by assumption, by assumption, rfl, rfl, by (dsimp only [Ar]; omega), by (dsimp only [Ar]; omega)⟩); (case F => k_asm); (case N => k_asm); (case m3 => k_mem); (case m4 => k_mem); (case m2 => k_mem); (case oT => assumption); (case m1 => k_mem); (case oc => assumption); (case vs => assumption); (case sz => assumption); (case U => k_upd)); intro h' tk' F' N'))
local macro_rules | `(tactic| walk_at "call builtin:len") => `(tactic| (k_here; (with_reducible show wpAny _ _ (call (Value.builtin "len") [Value.ref _]) _ _ _); k_dflt (refine kdf_len (by k_tabat) (by omega) ?_)))
/-- a def without a try, called from any frame -/
local macro_rules | `(tactic| walk_at "ruc enter") => `(tactic| (refine wpAny_call ?_; (refine' code_def ?B ?F ?X ?N ?T rfl ?f1 ?f2 ?k6 ?k7 ?k8 ?k9 ?kB ?_ ?c2 ?c3 ?c4 ?c5; (case B => assumption); (case F => assumption); (case X => assumption); (case N => assumption); (case T => assumption); (case f1 => assumption); (case f2 => assumption); (case k6 => k_is); (case k7 => k_is); (case k8 => k_room); (case k9 => exact BindsTo.of_eq rfl); (case c5 => decide); (case kB => exact locs rfl); (case c2 => exact rfl); (case c3 => exact rfl); (case c4 => exact rfl); k_whole; intro g' L' h' FG' F' N' B' X' T'; (try dsimp only); (try k_lift B'); (try k_fold))))
section
variable {w : World} {A₀ : Around} {base h₀ : Heap} {outer : List Env} {e1 : Env} {L x dx d : Addr} {loose : List Str} {mean : ExcName → Option Value} {m mg mb : Str → Option Value} {D U n : Nat}
  {g : Option (List Code)} {s : Shared} {E : Value → Shared → Prop} {Q : Value → Shared → Prop} {mv dv : Value} {t1 t2 t3 : Tok} {nn : Nat} {o : Obj} {kvs : List (Int × Value)} {c : List (Int × Int)} {k : Int} {tk : Tok} {rest : List (Addr × Obj)}
theorem getitem_hit (cx : Cx (n + 2) w A₀ base h₀ outer e1 L loose mean mg mb D U) (F : Fr h₀ L s.heap m) (N : News h₀ L s.heap ((d, o) :: (x, instObj 81 dx) :: (dx, selfDict w t1 t2 t3 mv dv d nn) :: rest))
    (hd1 : o.IsDictOf (PySem.intKind prg w) kvs) (hf : PyProof.V.FlatPairs PyData.int kvs (kdfD c)) (hk : kdfHas c k = true) (hc : c.length ≤ 1000)
    (hlt : @LT.lt Nat _ x d ∧ @LT.lt Nat _ dx x) (lo : (d == sysModules) = false) (hoff : ∀ p ∈ rest, p.1 ≠ d)
    (h : ∀ h' (o' : Obj) (kvs' : List (Int × Value)) t tk', Fr h₀ L h' m → News h₀ L h' ((d, o') :: (x, instObj 81 dx) :: (dx, selfDict w t1 t2 t3 mv dv d nn) :: rest) → o'.IsDictOf (PySem.intKind prg w) kvs' →
      PyProof.V.FlatPairs PyData.int kvs' (kdfD (kdfPut (kdyDel c k) k (kdfLook c k 0))) → Q (.int (kdfLook c k 0) t) { s with heap := h', toks := tk' }) :
    wpAny (model prg w) (Ar D U g e1 outer) (call (.ref 36) [.ref x, .int k tk]) Q E s := by
  obtain ⟨B, X, T, hf1, hk1, hD, hU⟩ := cx
  have hc2 := kdyDel_len c k
  w_on
  w_strict walk_at "ruc enter"
  w_strict k_steps
  rename Fr h₀ _ _ _ => kF
  rename News h₀ _ _ _ => kN
  exact h _ _ _ _ _ kF kN (by assumption) (by assumption)
theorem getitem_miss (cx : Cx (n + 2) w A₀ base h₀ outer e1 L loose mean mg mb D U) (F : Fr h₀ L s.heap m) (N : News h₀ L s.heap ((d, o) :: (x, instObj 81 dx) :: (dx, selfDict w t1 t2 t3 mv dv d nn) :: rest))
    (hd1 : o.IsDictOf (PySem.intKind prg w) kvs) (hf : PyProof.V.FlatPairs PyData.int kvs (kdfD c)) (hk : kdfHas c k = false) (hc : c.length ≤ 1000)
    (hlt : @LT.lt Nat _ x d ∧ @LT.lt Nat _ dx x) (lo : (d == sysModules) = false) (hoff : ∀ p ∈ rest, p.1 ≠ d)
    (h : ∀ G h' e tk', Fr h₀ L G m → RaisedSN base G (e1 :: outer) e (.type "KeyError") ((d, o) :: (x, instObj 81 dx) :: (dx, selfDict w t1 t2 t3 mv dv d nn) :: rest) h' → G.UpToSlots h' → E (.ref e) { s with heap := h', toks := tk' }) :
    wpAny (model prg w) (Ar D U g e1 outer) (call (.ref 36) [.ref x, .int k tk]) Q E s := by
  obtain ⟨B, X, T, hf1, hk1, hD, hU⟩ := cx
  w_on
  w_strict walk_at "ruc enter"
  w_strict k_steps
  exact h _ _ _ _ (by assumption) (by assumption) (by assumption)
/-- what is handed the thrown-out values: nobody, or the law's lambda -/
def Disp (dv : Value) (tL cT : Addr) (rest : List (Addr × Obj)) : Prop :=
  dv = .none ∨ ∃ f qual pm c' ctv oc vs t, dv = .ref f ∧ (f, lamObj qual cT pm c' ctv) ∈ rest ∧ (c', oc) ∈ rest ∧ oc.data = .fields vs ∧ vs[1]? = some (.str qual t)
def toldBy (dv : Value) (vsT : List Value) (v : Value) : List Value := match dv with | .ref _ => vsT ++ [v] | _ => vsT
def toldN (dv : Value) (n : Nat) : Nat := match dv with | .ref _ => n + 1 | _ => n
theorem delitem_hit {tL cT : Addr} {vsT : List Value} {nT : Nat} {oT : Obj} (cx : Cx (n + 2) w A₀ base h₀ outer e1 L loose mean mg mb D U) (F : Fr h₀ L s.heap m)
    (N : News h₀ L s.heap ((d, o) :: (x, instObj 81 dx) :: (dx, selfDict w t1 t2 t3 mv dv d nn) :: (tL, W.listOf vsT.toArray nT) :: (cT, oT) :: rest))
    (hd1 : o.IsDictOf (PySem.intKind prg w) kvs) (hf : PyProof.V.FlatPairs PyData.int kvs (kdfD c)) (hk : kdfHas c k = true) (hc : c.length ≤ 1000) (hT : vsT.length ≤ 1000) (hoT : oT.data = .cell (some (.ref tL)))
    (hlt : @LT.lt Nat _ x d ∧ @LT.lt Nat _ dx x ∧ @LT.lt Nat _ tL dx ∧ @LT.lt Nat _ cT tL) (lo : (d == sysModules) = false) (hoff : ∀ p ∈ rest, p.1 ≠ d) (hoffT : ∀ p ∈ rest, p.1 ≠ tL) (dp : Disp dv tL cT rest)
    (h : ∀ h' (o' : Obj) (kvs' : List (Int × Value)) t tk', Fr h₀ L h' m → News h₀ L h' ((d, o') :: (x, instObj 81 dx) :: (dx, selfDict w t1 t2 t3 mv dv d nn) :: (tL, W.listOf (toldBy dv vsT (.int (kdfLook c k 0) t)).toArray (toldN dv nT)) :: (cT, oT) :: rest) →
      o'.IsDictOf (PySem.intKind prg w) kvs' → PyProof.V.FlatPairs PyData.int kvs' (kdfD (kdyDel c k)) → Q .none { s with heap := h', toks := tk' }) :
    wpAny (model prg w) (Ar D U g e1 outer) (call (.ref 50) [.ref x, .int k tk]) Q E s := by
  obtain ⟨B, X, T, hf1, hk1, hD, hU⟩ := cx
  have hc2 := kdyDel_len c k
  w_on
  rcases dp with rfl | ⟨f, qual, pm, c', ctv, oc, vs, t, rfl, hm1, hm2, ho1, ho2⟩
  · w_strict walk_at "ruc enter"
    w_strict k_steps
    rename Fr h₀ _ _ _ => kF
    rename News h₀ _ _ _ => kN
    exact h _ _ _ s.toks _ kF kN (by assumption) (by assumption)
  · w_strict walk_at "ruc enter"
    w_strict k_steps
    rename Fr h₀ _ _ _ => kF
    rename News h₀ _ _ _ => kN
    rw [List.push_toArray] at kN
    exact h _ _ _ _ _ kF kN (by assumption) (by assumption)
theorem delitem_miss (cx : Cx (n + 2) w A₀ base h₀ outer e1 L loose mean mg mb D U) (F : Fr h₀ L s.heap m) (N : News h₀ L s.heap ((d, o) :: (x, instObj 81 dx) :: (dx, selfDict w t1 t2 t3 mv dv d nn) :: rest))
    (hd1 : o.IsDictOf (PySem.intKind prg w) kvs) (hf : PyProof.V.FlatPairs PyData.int kvs (kdfD c)) (hk : kdfHas c k = false) (hc : c.length ≤ 1000)
    (hlt : @LT.lt Nat _ x d ∧ @LT.lt Nat _ dx x) (lo : (d == sysModules) = false) (hoff : ∀ p ∈ rest, p.1 ≠ d)
    (h : ∀ G h' e tk', Fr h₀ L G m → RaisedSN base G (e1 :: outer) e (.type "KeyError") ((d, o) :: (x, instObj 81 dx) :: (dx, selfDict w t1 t2 t3 mv dv d nn) :: rest) h' → G.UpToSlots h' → E (.ref e) { s with heap := h', toks := tk' }) :
    wpAny (model prg w) (Ar D U g e1 outer) (call (.ref 50) [.ref x, .int k tk]) Q E s := by
  obtain ⟨B, X, T, hf1, hk1, hD, hU⟩ := cx
  w_on
  w_strict walk_at "ruc enter"
  w_strict k_steps
  exact h _ _ _ _ (by assumption) (by assumption) (by assumption)
theorem len_spec (cx : Cx (n + 2) w A₀ base h₀ outer e1 L loose mean mg mb D U) (F : Fr h₀ L s.heap m) (N : News h₀ L s.heap ((d, o) :: (x, instObj 81 dx) :: (dx, selfDict w t1 t2 t3 mv dv d nn) :: rest))
    (hd1 : o.IsDictOf (PySem.intKind prg w) kvs) (hf : PyProof.V.FlatPairs PyData.int kvs (kdfD c)) (hc : c.length ≤ 1000) (lo : (d == sysModules) = false)
    (h : ∀ h' t tk', Fr h₀ L h' m → News h₀ L h' ((d, o) :: (x, instObj 81 dx) :: (dx, selfDict w t1 t2 t3 mv dv d nn) :: rest) → Q (.int (c.length : Nat) t) { s with heap := h', toks := tk' }) :
    wpAny (model prg w) (Ar D U g e1 outer) (call (.ref 57) [.ref x]) Q E s := by
  obtain ⟨B, X, T, hf1, hk1, hD, hU⟩ := cx
  w_on
  w_strict walk_at "ruc enter"
  w_strict k_steps
  rename Fr h₀ _ _ _ => kF
  rename News h₀ _ _ _ => kN
  exact h _ _ _ kF kN
end
end Ruc
end
section
open PySem PySem.W PySem.Calls PySem.Spec PyProof.Rows
set_option maxHeartbeats 1000000
namespace Ruc
theorem fill4 : PySem.Challenge.rw_ew0039_01.row.prog = PySem.Challenge.rw_ew0039_01.row.prog ∧ hd.heap_39 = hd.heap_39 := by k_fill; exact ⟨rfl, rfl⟩
local macro_rules | `(tactic| walk_at "getMethod ref") => `(tactic| (k_here; k_dflt (refine' getMethod_tab_any (knd := PySem.intKind _ _) (enc := PyData.int) ?k1 ?k2 ?_; (case k1 => exact rfl); (case k2 => k_tabat); k_whole)))
local macro_rules | `(tactic| k_room) => `(tactic| (simp only [depth_under_make, depth_under_kw, depth_in1, depth_deeper, depth_caller, Ar]; omega))
local macro_rules | `(tactic| k_mem) => `(tactic| assumption)
local macro_rules | `(tactic| k_all) => `(tactic| assumption)
local macro_rules | `(tactic| walk_at "call builtin:dict.pop") => `(tactic| (k_here; k_dflt (refine pop_miss (by rfl) (by k_tabat) (by assumption) ?_); intro h' e' x'))
local macro_rules | `(tactic| walk_at "leaving ref") => `(tactic| (k_here; (refine' leave_newS ?k1 ?k0 ?k2 ?k3 ?_; (case k0 => assumption); (case k2 => assumption); (case k1 => assumption); (case k3 => k_asm); k_whole; intro h' S' R' U'; (try dsimp only at S' R' U' ⊢))))
local macro_rules | `(tactic| walk_at "truthy ref") => `(tactic| (k_here; k_dflt (refine truthy_fn ⟨_, News.get (by k_asm) (by k_mem), rfl⟩ ?_)))
local macro_rules | `(tactic| walk_at "getMethod ref") => `(tactic| (k_here; (with_reducible show wpAny _ _ (getMethod (Value.ref _) (Str.ofString "dispose_func") _) _ _ _); k_dflt (refine' method_attr ?k1 ?k2 ?k3 ?k4 ?k5 ?_; (case k1 => k_in); (case k2 => k_inst); (case k3 => k_is); (case k4 => k_is); (case k5 => k_is); k_whole)))
local macro_rules | `(tactic| walk_at "callWith ref") => `(tactic| (k_here; k_dflt (refine' callWith_F ?k1 ?_; (case k1 => exact FnAt.of (by k_asm) (by k_mem)); k_whole)))
local macro_rules | `(tactic| walk_at "FnAt") => `(tactic| (k_dflt (exact FnAt.of (by k_asm) (by k_mem))))
local macro_rules | `(tactic| walk_at "call ref") => `(tactic| (k_here; (dsimp only [List.nil_append, List.cons_append]); k_dflt (refine' lam_call (n := 0) ?cx ?F ?N ?U ?m1 ?m2 ?oT ?m3 ?m4 ?oc ?vs ?sz ?_; (case cx => exact ⟨by assumption, by assumption, by assumption, rfl, rfl, by (dsimp only [Ar]; omega), by (dsimp only [Ar]; omega)⟩); (case F => k_asm); (case N => k_asm); (case m3 => k_mem); (case m4 => k_mem); (case m2 => k_mem); (case oT => assumption); (case m1 => k_mem); (case oc => assumption); (case vs => assumption); (case sz => assumption); (case U => k_upd)); intro h' tk' F' N'))
local macro_rules | `(tactic| walk_at "call builtin:len") => `(tactic| (k_here; (with_reducible show wpAny _ _ (call (Value.builtin "len") [Value.ref _]) _ _ _); k_dflt (refine kdf_len (by k_tabat) (by omega) ?_)))
local macro_rules | `(tactic| walk_at "ruc enter") => `(tactic| (refine wpAny_call ?_; (refine' code_def ?B ?F ?X ?N ?T rfl ?f1 ?f2 ?k6 ?k7 ?k8 ?k9 ?kB ?_ ?c2 ?c3 ?c4 ?c5; (case B => assumption); (case F => assumption); (case X => assumption); (case N => assumption); (case T => assumption); (case f1 => assumption); (case f2 => assumption); (case k6 => k_is); (case k7 => k_is); (case k8 => k_room); (case k9 => exact BindsTo.of_eq rfl); (case c5 => decide); (case kB => exact locs rfl); (case c2 => exact rfl); (case c3 => exact rfl); (case c4 => exact rfl); k_whole; intro g' L' h' FG' F' N' B' X' T'; (try dsimp only); (try k_lift B'); (try k_fold))))

theorem updF_addr {d : Addr} {o : Obj} {l : List (Addr × Obj)} {u : Obj → List (Addr × Obj)} (U : UpdF d o l u) (o' : Obj) : (u o').map (·.1) = l.map (·.1) := by
  obtain ⟨pre, post, rfl, hu, _, _⟩ := U.split
  rw [hu]; simp
theorem updF_self {d : Addr} {o : Obj} {l : List (Addr × Obj)} {u : Obj → List (Addr × Obj)} (U : UpdF d o l u) : u o = l := by
  obtain ⟨pre, post, rfl, hu, _, _⟩ := U.split
  rw [hu]
theorem updF_other {d : Addr} {o o' : Obj} {l : List (Addr × Obj)} {u : Obj → List (Addr × Obj)} (U : UpdF d o l u) {p : Addr × Obj} (hp : p ∈ l) (hne : p.1 ≠ d) : p ∈ u o' := by
  obtain ⟨pre, post, rfl, hu, _, _⟩ := U.split
  rw [hu]
  rcases List.mem_append.mp hp with h | h
  · exact List.mem_append_left _ h
  · rcases List.mem_cons.mp h with h | h
    · rw [h] at hne; exact absurd rfl hne
    · exact List.mem_append_right _ (.tail _ h)
/-- a loop over a list of ints of the ledger whose turn puts the int at the end of another list of the ledger, and does nothing else -/
theorem told_loop {prog : Program} {w : World} {A : Around} {E : Value → Shared → Prop} {s : Shared} {env : Env} {h₀ : Heap} {x : Str} {body : List Stmt} {Q : Flow → Shared → Prop} {l tL : Addr} {ws vsT : List Value} {ns told : List Int} {nn nT : Nat} {m₀ : Str → Option Value} {news : List (Addr × Obj)} {u : Obj → List (Addr × Obj)}
    (hh : A.handled = none) (hl : (l, W.listOf ws.toArray nn) ∈ news) (hi : IntsAre ws ns) (F : Fr h₀ env.locals s.heap m₀) (N : News h₀ env.locals s.heap news) (U : UpdF tL (W.listOf vsT.toArray nT) news u) (hne : l ≠ tL) (hI : IntsAre vsT told)
    (turn : ∀ n t vs' told' nT' h tk own, IntsAre vs' told' → told'.length ≤ told.length + ns.length → OwnOff own (news.map (·.1)) → Fr h₀ env.locals h (fun y => if y = x then some (.int n t) else m₀ y) → News h₀ env.locals h (u (W.listOf vs'.toArray nT') ++ own) →
      wpAny (model prog w) A (execs body env) (InvPostN h₀ env.locals (fun m' nx => (∃ vs'' nT'', IntsAre vs'' (told' ++ [n]) ∧ nx = u (W.listOf vs''.toArray nT'')) ∧ ∀ z, z ≠ x → m' z = m₀ z) own (news.map (·.1)) { s with heap := h, toks := tk } Q) E { s with heap := h, toks := tk })
    (done : ∀ vs' nT' (q : Str → Option Value) h tk, IntsAre vs' (told ++ ns) → Fr h₀ env.locals h (fun y => if y = x then q y else m₀ y) → News h₀ env.locals h (u (W.listOf vs'.toArray nT')) → Q .next { s with heap := h, toks := tk }) :
    wpAny (model prog w) A (pyIter (.ref l)) (fun it s₂ => LoopAtV prog w A h₀ env x body Q E it s₂) E s := by
  refine iter_invNL (fun i m nx => (∃ vs' nT', IntsAre vs' (told ++ ns.take i) ∧ nx = u (W.listOf vs'.toArray nT')) ∧ ∀ z, z ≠ x → m z = m₀ z) hh hl hi F N ⟨⟨vsT, nT, by simpa using hI, (updF_self U).symm⟩, fun _ _ => rfl⟩ ?_ ?_
  · rintro i n t m₁ nx h tk own hn hadr hoff _ ⟨⟨vs', nT', hI', rfl⟩, hm⟩ F₁ N₁
    have hlt : i < ns.length := (List.getElem?_eq_some_iff.mp hn).1
    have e : (fun z => if z = x then some (Value.int n t) else m₁ z) = fun z => if z = x then some (Value.int n t) else m₀ z := by
      funext z
      by_cases h1 : z = x
      · simp [h1]
      · simp only [if_neg h1]; exact hm z h1
    rw [e] at F₁
    refine wpAny_mono (turn n t vs' _ nT' h tk own hI' (by simp [List.length_take]; omega) hoff F₁ N₁) (fun f s₂ p => ?_) fun _ _ x => x
    have up : InvEndN h₀ env.locals (fun m' nx => (∃ vs'' nT'', IntsAre vs'' ((told ++ ns.take i) ++ [n]) ∧ nx = u (W.listOf vs''.toArray nT'')) ∧ ∀ z, z ≠ x → m' z = m₀ z) own (news.map (·.1)) { s with heap := h, toks := tk } s₂ →
        InvEndN h₀ env.locals (fun m' nx => (l, W.listOf ws.toArray nn) ∈ nx ∧ (∃ vs'' nT'', IntsAre vs'' (told ++ ns.take (i + 1)) ∧ nx = u (W.listOf vs''.toArray nT'')) ∧ ∀ z, z ≠ x → m' z = m₀ z) own (news.map (·.1)) { s with heap := h, toks := tk } s₂ := by
      rintro ⟨h', tk', m', news', nx', e', F', N', hn', ho', ha, ⟨vs'', nT'', hI'', rfl⟩, hm'⟩
      have hs : told ++ ns.take (i + 1) = (told ++ ns.take i) ++ [n] := by
        rw [List.take_add_one, hn, List.append_assoc]; rfl
      exact ⟨h', tk', m', news', _, e', F', N', hn', ho', ha, updF_other U hl hne, ⟨vs'', nT'', by rw [hs]; exact hI'', rfl⟩, hm'⟩
    cases f with
    | ret v => exact p
    | brk => exact p
    | next => exact up p
    | cont => exact up p
  · rintro m₁ nx h tk _ ⟨⟨vs', nT', hI', rfl⟩, hm⟩ F₁ N₁
    rw [List.take_length] at hI'
    refine done vs' nT' m₁ h tk hI' ?_ N₁
    have e : (fun z => if z = x then m₁ z else m₀ z) = m₁ := by
      funext z
      by_cases h1 : z = x
      · simp [h1]
      · simp only [if_neg h1]; exact (hm z h1).symm
    rw [e]; exact F₁
section
variable {w : World} {A₀ : Around} {base h₀ : Heap} {outer : List Env} {e1 : Env} {L x dx d : Addr} {loose : List Str} {mean : ExcName → Option Value} {m mg mb : Str → Option Value} {D U n : Nat}
  {g : Option (List Code)} {s : Shared} {E : Value → Shared → Prop} {Q : Value → Shared → Prop} {mv dv : Value} {t1 t2 t3 : Tok} {nn : Nat} {o : Obj} {kvs : List (Int × Value)} {c : List (Int × Int)} {k : Int} {tk : Tok} {rest : List (Addr × Obj)}

theorem clear_none (cx : Cx (n + 2) w A₀ base h₀ outer e1 L loose mean mg mb D U) (F : Fr h₀ L s.heap m)
    (N : News h₀ L s.heap ((d, o) :: (x, instObj 81 dx) :: (dx, selfDict w t1 t2 t3 mv .none d nn) :: rest))
    (hd1 : o.IsDictOf (PySem.intKind prg w) kvs) (hf : PyProof.V.FlatPairs PyData.int kvs (kdfD c)) (hc : c.length ≤ 100)
    (hlt : @LT.lt Nat _ x d ∧ @LT.lt Nat _ dx x) (lo : (d == sysModules) = false) (hoff : ∀ p ∈ rest, p.1 ≠ d)
    (h : ∀ h' (o' : Obj) (kvs' : List (Int × Value)) tk', Fr h₀ L h' m → News h₀ L h' ((d, o') :: (x, instObj 81 dx) :: (dx, selfDict w t1 t2 t3 mv .none d nn) :: rest) →
      o'.IsDictOf (PySem.intKind prg w) kvs' → PyProof.V.FlatPairs PyData.int kvs' (kdfD []) → Q .none { s with heap := h', toks := tk' }) :
    wpAny (model prg w) (Ar D U g e1 outer) (call (.ref 71) [.ref x]) Q E s := by
  obtain ⟨B, X, T, hf1, hk1, hD, hU⟩ := cx
  w_on
  w_strict walk_at "ruc enter"
  w_strict k_steps
  rename Fr h₀ _ _ _ => kF
  rename News h₀ _ _ _ => kN
  exact h _ _ _ _ kF (fun p hp => kN p (.tail _ (.tail _ hp))) (by assumption) (by assumption)
theorem clear_lam {tL cT f c' : Addr} {vsT : List Value} {nT : Nat} {oT oc : Obj} {told : List Int} {qual : Str} {pm ctv : Value} {vs : Array Value} {t : Tok} (cx : Cx (n + 2) w A₀ base h₀ outer e1 L loose mean mg mb D U) (F : Fr h₀ L s.heap m)
    (N : News h₀ L s.heap ((d, o) :: (x, instObj 81 dx) :: (dx, selfDict w t1 t2 t3 mv (.ref f) d nn) :: (tL, W.listOf vsT.toArray nT) :: (cT, oT) :: rest))
    (hd1 : o.IsDictOf (PySem.intKind prg w) kvs) (hf : PyProof.V.FlatPairs PyData.int kvs (kdfD c)) (hc : c.length ≤ 100) (hI : IntsAre vsT told) (hT : told.length ≤ 500) (hoT : oT.data = .cell (some (.ref tL)))
    (hlt : @LT.lt Nat _ x d ∧ @LT.lt Nat _ dx x ∧ @LT.lt Nat _ tL dx ∧ @LT.lt Nat _ cT tL) (lo : (d == sysModules) = false) (hoff : ∀ p ∈ rest, p.1 ≠ d) (hoffT : ∀ p ∈ rest, p.1 ≠ tL)
    (hmf : (f, lamObj qual cT pm c' ctv) ∈ rest) (hmc : (c', oc) ∈ rest) (hoc : oc.data = .fields vs) (hvs : vs[1]? = some (.str qual t))
    (h : ∀ h' (o' : Obj) (kvs' : List (Int × Value)) vsT' nT' tk', Fr h₀ L h' m → News h₀ L h' ((d, o') :: (x, instObj 81 dx) :: (dx, selfDict w t1 t2 t3 mv (.ref f) d nn) :: (tL, W.listOf vsT'.toArray nT') :: (cT, oT) :: rest) →
      o'.IsDictOf (PySem.intKind prg w) kvs' → PyProof.V.FlatPairs PyData.int kvs' (kdfD []) → IntsAre vsT' (told ++ c.map (·.2)) → Q .none { s with heap := h', toks := tk' }) :
    wpAny (model prg w) (Ar D U g e1 outer) (call (.ref 71) [.ref x]) Q E s := by
  obtain ⟨B, X, T, hf1, hk1, hD, hU⟩ := cx
  w_on
  w_strict walk_at "ruc enter"
  w_strict k_steps
  rename Fr _ _ _ _ => kF
  rename News _ _ _ _ => kN
  rename IntsAre _ (List.map _ c) => iL
  have hcl : (c.map (·.2)).length = c.length := List.length_map _
  refine told_loop (tL := tL) (vsT := vsT) (nT := nT) rfl (.head _) iL kF kN (by k_updF) (by refine neN ?_; omega) hI ?_ ?_
  · intro n t vs' told' nT' h₃ tk₃ own hI' hlen hoff' F₃ N₃
    dsimp only [List.cons_append] at N₃
    have hle : vs'.length ≤ 1000 := by rw [hI'.length]; omega
    have hmf' := List.mem_append_left own hmf
    have hmc' := List.mem_append_left own hmc
    have hofT' : ∀ p ∈ rest ++ own, p.1 ≠ tL := fun p hp => (List.mem_append.mp hp).elim (hoffT p) fun hp => hoff' p hp tL (by simp)
    w_strict k_steps
    rename Fr _ _ _ _ => kF
    rename News _ _ _ _ => kN
    rw [List.push_toArray] at kN
    exact InvEndN.intro kF kN ⟨⟨_, _, ksk_snoc hI', rfl⟩, fun z hz => if_neg hz⟩ rfl (fun p hp => List.mem_append_left own hp) (fun p hp => .tail _ (.tail _ (.tail _ (.tail _ (.tail _ (.tail _ (.tail _ (List.mem_append_right rest hp))))))))
  · intro vs' nT' q h₃ tk₃ hI' F₃ N₃
    w_strict k_steps
    rename Fr h₀ _ _ _ => kF
    rename News h₀ _ _ _ => kN
    exact h _ _ _ _ _ _ kF (fun p hp => kN p (.tail _ (.tail _ hp))) (by assumption) (by assumption) hI'
end
end Ruc
end
section
open PySem PySem.W PySem.Calls PySem.Spec PyProof.Rows
set_option maxHeartbeats 1000000
namespace Ruc
theorem fill5 : PySem.Challenge.rw_ew0039_01.row.prog = PySem.Challenge.rw_ew0039_01.row.prog ∧ hd.heap_39 = hd.heap_39 := by k_fill; exact ⟨rfl, rfl⟩
local macro_rules | `(tactic| walk_at "getMethod ref") => `(tactic| (k_here; k_dflt (refine' getMethod_tab_any (knd := PySem.intKind _ _) (enc := PyData.int) ?k1 ?k2 ?_; (case k1 => exact rfl); (case k2 => k_tabat); k_whole)))
local macro_rules | `(tactic| k_room) => `(tactic| (simp only [depth_under_make, depth_under_kw, depth_in1, depth_deeper, depth_caller, Ar]; omega))
local macro_rules | `(tactic| k_mem) => `(tactic| assumption)
local macro_rules | `(tactic| k_all) => `(tactic| assumption)
local macro_rules | `(tactic| walk_at "call builtin:dict.pop") => `(tactic| (k_here; k_dflt (refine pop_miss (by rfl) (by k_tabat) (by assumption) ?_); intro h' e' x'))
local macro_rules | `(tactic| walk_at "leaving ref") => `(tactic| (k_here; (refine' leave_newS ?k1 ?k0 ?k2 ?k3 ?_; (case k0 => assumption); (case k2 => assumption); (case k1 => assumption); (case k3 => k_asm); k_whole; intro h' S' R' U'; (try dsimp only at S' R' U' ⊢))))
local macro_rules | `(tactic| walk_at "truthy ref") => `(tactic| (k_here; k_dflt (refine truthy_fn ⟨_, News.get (by k_asm) (by k_mem), rfl⟩ ?_)))
local macro_rules | `(tactic| walk_at "getMethod ref") => `(tactic| (k_here; (with_reducible show wpAny _ _ (getMethod (Value.ref _) (Str.ofString "dispose_func") _) _ _ _); k_dflt (refine' method_attr ?k1 ?k2 ?k3 ?k4 ?k5 ?_; (case k1 => k_in); (case k2 => k_inst); (case k3 => k_is); (case k4 => k_is); (case k5 => k_is); k_whole)))
local macro_rules | `(tactic| walk_at "callWith ref") => `(tactic| (k_here; k_dflt (refine' callWith_F ?k1 ?_; (case k1 => exact FnAt.of (by k_asm) (by k_mem)); k_whole)))
local macro_rules | `(tactic| walk_at "FnAt") => `(tactic| (k_dflt (exact FnAt.of (by k_asm) (by k_mem))))
local macro_rules | `(tactic| walk_at "call ref") => `(tactic| (k_here; (dsimp only [List.nil_append, List.cons_append]); k_dflt (refine' lam_call (n := 0) ?cx ?F ?N ?U ?m1 ?m2 ?oT ?m3 ?m4 ?oc ?vs ?sz ?_; (case cx => exact ⟨by assumption, by assumption, by assumption, rfl, rfl, by (dsimp only [Ar]; omega), by (dsimp only [Ar]; omega)⟩); (case F => k_asm); (case N => k_asm); (case m3 => k_mem); (case m4 => k_mem); (case m2 => k_mem); (case oT => assumption); (case m1 => k_mem); (case oc => assumption); (case vs => assumption); (case sz => assumption); (case U => k_upd)); intro h' tk' F' N'))
local macro_rules | `(tactic| walk_at "call builtin:len") => `(tactic| (k_here; (with_reducible show wpAny _ _ (call (Value.builtin "len") [Value.ref _]) _ _ _); k_dflt (refine kdf_len (by k_tabat) (by omega) ?_)))
local macro_rules | `(tactic| walk_at "ruc enter") => `(tactic| (refine wpAny_call ?_; (refine' code_def ?B ?F ?X ?N ?T rfl ?f1 ?f2 ?k6 ?k7 ?k8 ?k9 ?kB ?_ ?c2 ?c3 ?c4 ?c5; (case B => assumption); (case F => assumption); (case X => assumption); (case N => assumption); (case T => assumption); (case f1 => assumption); (case f2 => assumption); (case k6 => k_is); (case k7 => k_is); (case k8 => k_room); (case k9 => exact BindsTo.of_eq rfl); (case c5 => decide); (case kB => exact locs rfl); (case c2 => exact rfl); (case c3 => exact rfl); (case c4 => exact rfl); k_whole; intro g' L' h' FG' F' N' B' X' T'; (try dsimp only); (try k_lift B'); (try k_fold))))
local macro_rules | `(tactic| walk_at "ruc enterS") => `(tactic| (refine wpAny_call ?_; (refine' enterS0 ?B ?F ?X ?N ?T rfl ?f1 ?f2 ?k6 ?k7 ?k8 ?k9 ?kB ?_ ?c2 ?c3 ?c4 ?c5; (case B => assumption); (case F => assumption); (case X => assumption); (case N => assumption); (case T => assumption); (case f1 => assumption); (case f2 => assumption); (case k6 => k_is); (case k7 => k_is); (case k8 => k_room); (case k9 => exact BindsTo.of_eq rfl); (case c5 => decide); (case kB => exact locs rfl); (case c2 => exact rfl); (case c3 => exact rfl); (case c4 => exact rfl); k_whole; intro g' L' h' FG' F' N' B' X' T' D'; (try dsimp only); (try k_lift B'); (try k_fold))))
local macro_rules | `(tactic| walk_at "noteFrame ref") => `(tactic| (k_here; (with_reducible rename Heap.NewExc _ _ _ _ => nxX); k_dflt (refine' caught_here (T' := "KeyError") nxX ?F ?N ?K ?XB ?TB ?D ?ex PyProof.Rows.Boot.«KeyError» ?hn kr_isExc_KeyError kr_notTuple_KeyError ?hs ?_; (case F => assumption); (case N => assumption); (case K => assumption); (case XB => assumption); (case TB => assumption); (case D => assumption); (case hs => kts_sub); (case ex => k_is); (case hn => decide); k_whole); intro h' g' T' F' N' K' X' P' D'; (try k_lift K'); (try k_sweep)))
section
variable {w : World} {A₀ : Around} {base h₀ : Heap} {outer : List Env} {e1 : Env} {L x dx d : Addr} {loose : List Str} {mean : ExcName → Option Value} {m mg mb : Str → Option Value} {D U n : Nat}
  {g : Option (List Code)} {s : Shared} {E : Value → Shared → Prop} {Q : Value → Shared → Prop} {mv dv : Value} {t1 t2 t3 : Tok} {nn : Nat} {o : Obj} {kvs : List (Int × Value)} {c : List (Int × Int)} {k : Int} {tk : Tok} {rest : List (Addr × Obj)}

theorem setitem_old {tL cT : Addr} {vsT : List Value} {nT : Nat} {oT : Obj} {v : Int} {tv : Tok} (cx : Cx (n + 3) w A₀ h₀ h₀ [] e1 L loose mean mg mb D U) (F : Fr h₀ L s.heap m)
    (N : News h₀ L s.heap ((d, o) :: (x, instObj 81 dx) :: (dx, selfDict w t1 t2 t3 mv dv d nn) :: (tL, W.listOf vsT.toArray nT) :: (cT, oT) :: rest))
    (hd1 : o.IsDictOf (PySem.intKind prg w) kvs) (hf : PyProof.V.FlatPairs PyData.int kvs (kdfD c)) (hk : kdfHas c k = true) (hc : c.length ≤ 100) (hT : vsT.length ≤ 1000) (hoT : oT.data = .cell (some (.ref tL)))
    (hlt : @LT.lt Nat _ x d ∧ @LT.lt Nat _ dx x ∧ @LT.lt Nat _ tL dx ∧ @LT.lt Nat _ cT tL) (lo : (d == sysModules) = false) (hoff : ∀ p ∈ rest, p.1 ≠ d) (hoffT : ∀ p ∈ rest, p.1 ≠ tL) (dp : Disp dv tL cT rest)
    (h : ∀ h' (o' : Obj) (kvs' : List (Int × Value)) t tk', Fr h₀ L h' m → News h₀ L h' ((d, o') :: (x, instObj 81 dx) :: (dx, selfDict w t1 t2 t3 mv dv d nn) :: (tL, W.listOf (toldBy dv vsT (.int (kdfLook c k 0) t)).toArray (toldN dv nT)) :: (cT, oT) :: rest) →
      o'.IsDictOf (PySem.intKind prg w) kvs' → PyProof.V.FlatPairs PyData.int kvs' (kdfD (kdfPut (kdyDel c k) k v)) → Q .none { s with heap := h', toks := tk' }) :
    wpAny (model prg w) (Ar D U g e1 []) (call (.ref 43) [.ref x, .int k tk, .int v tv]) Q E s := by
  obtain ⟨B, X, T, hf1, hk1, hD, hU⟩ := cx
  have hc2 := kdyDel_len c k
  w_on
  rcases dp with rfl | ⟨f, qual, pm, c', ctv, oc, vs, t, rfl, hm1, hm2, ho1, ho2⟩
  · w_strict walk_at "ruc enterS"
    w_strict k_steps
    rename Fr h₀ _ _ _ => kF
    rename News h₀ _ _ _ => kN
    exact h _ _ _ s.toks _ kF (fun p hp => kN p (.tail _ hp)) (by assumption) (by assumption)
  · w_strict walk_at "ruc enterS"
    w_strict k_steps
    rename Fr h₀ _ _ _ => kF
    rename News h₀ _ _ _ => kN
    rw [List.push_toArray] at kN
    exact h _ _ _ _ _ kF (fun p hp => kN p (.tail _ hp)) (by assumption) (by assumption)
theorem setitem_new {v size : Int} {tv ts : Tok} (cx : Cx (n + 3) w A₀ h₀ h₀ [] e1 L loose mean mg mb D U) (F : Fr h₀ L s.heap m)
    (N : News h₀ L s.heap ((d, o) :: (x, instObj 81 dx) :: (dx, selfDict w t1 t2 t3 (.int size ts) dv d nn) :: rest))
    (hd1 : o.IsDictOf (PySem.intKind prg w) kvs) (hf : PyProof.V.FlatPairs PyData.int kvs (kdfD c)) (hk : kdfHas c k = false) (hc : c.length ≤ 100) (hfit : ((kdfPut c k v).length : Int) ≤ size)
    (hlt : @LT.lt Nat _ x d ∧ @LT.lt Nat _ dx x) (lo : (d == sysModules) = false) (hoff : ∀ p ∈ rest, p.1 ≠ d)
    (h : ∀ h' (o' : Obj) (kvs' : List (Int × Value)) tk', Fr h₀ L h' m → News h₀ L h' ((d, o') :: (x, instObj 81 dx) :: (dx, selfDict w t1 t2 t3 (.int size ts) dv d nn) :: rest) →
      o'.IsDictOf (PySem.intKind prg w) kvs' → PyProof.V.FlatPairs PyData.int kvs' (kdfD (kdfPut c k v)) → Q .none { s with heap := h', toks := tk' }) :
    wpAny (model prg w) (Ar D U g e1 []) (call (.ref 43) [.ref x, .int k tk, .int v tv]) Q E s := by
  obtain ⟨B, X, T, hf1, hk1, hD, hU⟩ := cx
  have hc2 := kdfPut_len c k v
  w_on
  w_strict walk_at "ruc enterS"
  w_strict k_steps
  rename Fr h₀ _ _ _ => kF
  rename News h₀ _ _ _ => kN
  exact h _ _ _ _ kF kN (by assumption) (by assumption)
end
end Ruc
end
section
open PySem PySem.W PySem.Calls PySem.Spec PyProof.Rows
set_option maxHeartbeats 1000000
namespace Ruc
theorem fill6 : PySem.Challenge.rw_ew0039_01.row.prog = PySem.Challenge.rw_ew0039_01.row.prog ∧ hd.heap_39 = hd.heap_39 := by k_fill; exact ⟨rfl, rfl⟩
local macro_rules | `(tactic| walk_at "getMethod ref") => `(tactic| (k_here; k_dflt (refine' getMethod_tab_any (knd := PySem.intKind _ _) (enc := PyData.int) ?k1 ?k2 ?_; (case k1 => exact rfl); (case k2 => k_tabat); k_whole)))
local macro_rules | `(tactic| k_room) => `(tactic| (simp only [depth_under_make, depth_under_kw, depth_in1, depth_deeper, depth_caller, Ar]; omega))
local macro_rules | `(tactic| k_mem) => `(tactic| assumption)
local macro_rules | `(tactic| k_all) => `(tactic| assumption)
local macro_rules | `(tactic| walk_at "call builtin:dict.pop") => `(tactic| (k_here; k_dflt (refine pop_miss (by rfl) (by k_tabat) (by assumption) ?_); intro h' e' x'))
local macro_rules | `(tactic| walk_at "leaving ref") => `(tactic| (k_here; (refine' leave_newS ?k1 ?k0 ?k2 ?k3 ?_; (case k0 => assumption); (case k2 => assumption); (case k1 => assumption); (case k3 => k_asm); k_whole; intro h' S' R' U'; (try dsimp only at S' R' U' ⊢))))
local macro_rules | `(tactic| walk_at "truthy ref") => `(tactic| (k_here; k_dflt (refine truthy_fn ⟨_, News.get (by k_asm) (by k_mem), rfl⟩ ?_)))
local macro_rules | `(tactic| walk_at "getMethod ref") => `(tactic| (k_here; (with_reducible show wpAny _ _ (getMethod (Value.ref _) (Str.ofString "dispose_func") _) _ _ _); k_dflt (refine' method_attr ?k1 ?k2 ?k3 ?k4 ?k5 ?_; (case k1 => k_in); (case k2 => k_inst); (case k3 => k_is); (case k4 => k_is); (case k5 => k_is); k_whole)))
local macro_rules | `(tactic| walk_at "callWith ref") => `(tactic| (k_here; k_dflt (refine' callWith_F ?k1 ?_; (case k1 => exact FnAt.of (by k_asm) (by k_mem)); k_whole)))
local macro_rules | `(tactic| walk_at "FnAt") => `(tactic| (k_dflt (exact FnAt.of (by k_asm) (by k_mem))))
local macro_rules | `(tactic| walk_at "call ref") => `(tactic| (k_here; (dsimp only [List.nil_append, List.cons_append]); k_dflt (refine' lam_call (n := 0) ?cx ?F ?N ?U ?m1 ?m2 ?oT ?m3 ?m4 ?oc ?vs ?sz ?_; (case cx => exact ⟨by assumption, by assumption, by assumption, rfl, rfl, by (dsimp only [Ar]; omega), by (dsimp only [Ar]; omega)⟩); (case F => k_asm); (case N => k_asm); (case m3 => k_mem); (case m4 => k_mem); (case m2 => k_mem); (case oT => assumption); (case m1 => k_mem); (case oc => assumption); (case vs => assumption); (case sz => assumption); (case U => k_upd)); intro h' tk' F' N'))
local macro_rules | `(tactic| walk_at "call builtin:len") => `(tactic| (k_here; (with_reducible show wpAny _ _ (call (Value.builtin "len") [Value.ref _]) _ _ _); k_dflt (refine kdf_len (by k_tabat) (by omega) ?_)))
local macro_rules | `(tactic| walk_at "ruc enter") => `(tactic| (refine wpAny_call ?_; (refine' code_def ?B ?F ?X ?N ?T rfl ?f1 ?f2 ?k6 ?k7 ?k8 ?k9 ?kB ?_ ?c2 ?c3 ?c4 ?c5; (case B => assumption); (case F => assumption); (case X => assumption); (case N => assumption); (case T => assumption); (case f1 => assumption); (case f2 => assumption); (case k6 => k_is); (case k7 => k_is); (case k8 => k_room); (case k9 => exact BindsTo.of_eq rfl); (case c5 => decide); (case kB => exact locs rfl); (case c2 => exact rfl); (case c3 => exact rfl); (case c4 => exact rfl); k_whole; intro g' L' h' FG' F' N' B' X' T'; (try dsimp only); (try k_lift B'); (try k_fold))))
local macro_rules | `(tactic| walk_at "ruc enterS") => `(tactic| (refine wpAny_call ?_; (refine' enterS0 ?B ?F ?X ?N ?T rfl ?f1 ?f2 ?k6 ?k7 ?k8 ?k9 ?kB ?_ ?c2 ?c3 ?c4 ?c5; (case B => assumption); (case F => assumption); (case X => assumption); (case N => assumption); (case T => assumption); (case f1 => assumption); (case f2 => assumption); (case k6 => k_is); (case k7 => k_is); (case k8 => k_room); (case k9 => exact BindsTo.of_eq rfl); (case c5 => decide); (case kB => exact locs rfl); (case c2 => exact rfl); (case c3 => exact rfl); (case c4 => exact rfl); k_whole; intro g' L' h' FG' F' N' B' X' T' D'; (try dsimp only); (try k_lift B'); (try k_fold))))
local macro_rules | `(tactic| walk_at "noteFrame ref") => `(tactic| (k_here; (with_reducible rename Heap.NewExc _ _ _ _ => nxX); k_dflt (refine' caught_here (T' := "KeyError") nxX ?F ?N ?K ?XB ?TB ?D ?ex PyProof.Rows.Boot.«KeyError» ?hn kr_isExc_KeyError kr_notTuple_KeyError ?hs ?_; (case F => assumption); (case N => assumption); (case K => assumption); (case XB => assumption); (case TB => assumption); (case D => assumption); (case hs => kts_sub); (case ex => k_is); (case hn => decide); k_whole); intro h' g' T' F' N' K' X' P' D'; (try k_lift K'); (try k_sweep)))
theorem next_first {prog : Program} {w : World} {A : Around} {E : Value → Shared → Prop} {s : Shared} {h₀ : Heap} {L it d : Addr} {m : Str → Option Value} {news : List (Addr × Obj)} {u : Obj → List (Addr × Obj)} {io o : Obj} {ep : Nat} {kvs : List (Int × Value)} {c c2 : List (Int × Int)} {k0 v0 : Int} {Q : Value → Shared → Prop}
    (F : Fr h₀ L s.heap m) (N : News h₀ L s.heap news) (U : UpdF it io news u) (hi : KdkIter io d 0 kvs.length ep) (ha : KdkAt (PySem.intKind prog w) o kvs ep) (hp : (d, o) ∈ news) (hf : PyProof.V.FlatPairs PyData.int kvs (kdfD c)) (hc : c = (k0, v0) :: c2)
    (h : ∀ h' o' t, Fr h₀ L h' m → News h₀ L h' (u o') → Q (.int k0 t) { s with heap := h' }) : wpAny (model prog w) A (call (.builtin "next") [.ref it]) Q E s := by
  subst hc
  have hl := hf.length
  rw [kdfD_length, List.length_cons] at hl
  cases kvs with
  | nil => simp at hl
  | cons p r =>
    obtain ⟨k, x⟩ := p
    obtain ⟨dv, hd, _⟩ := hf.at (i := 0) (k := k) (v := x) rfl
    have e : k = k0 := by
      have e1 : some (PyData.int k0, PyData.int v0) = some (PyData.int k, dv) := hd
      injection e1 with e1
      injection e1 with e1 _
      injection e1 with e1
      exact e1.symm
    subst e
    refine kdk_next (knd := PySem.intKind prog w) F N U hi ha hp (k := k) (x := x) rfl fun h' o' key hkey F' N' _ => ?_
    obtain ⟨t, rfl⟩ := PySem.Value.isInt_shape hkey
    exact h h' o' t F' N'
theorem kdfLook_first (k0 v0 : Int) (c2 : List (Int × Int)) : kdfLook ((k0, v0) :: c2) k0 0 = v0 := by simp [kdfLook]
theorem kdfHas_first (k0 v0 : Int) (c2 : List (Int × Int)) : kdfHas ((k0, v0) :: c2) k0 = true := by simp [kdfHas]
local macro_rules | `(tactic| walk_at "call builtin:next") => `(tactic| (k_here; (with_reducible show wpAny _ _ (call (Value.builtin "next") [Value.ref _]) _ _ _); k_dflt (refine' next_first ?F ?N ?U ?i ?a ?p ?f ?c ?_; (case F => k_asm); (case N => k_asm); (case U => k_updF); (case i => k_asm); (case a => k_asm); (case p => k_mem); (case f => k_asm); (case c => assumption)); intro h' o' t' F' N'; (try dsimp only at N')))
section
variable {w : World} {A₀ : Around} {base h₀ : Heap} {outer : List Env} {e1 : Env} {L x dx d : Addr} {loose : List Str} {mean : ExcName → Option Value} {m mg mb : Str → Option Value} {D U n : Nat}
  {g : Option (List Code)} {s : Shared} {E : Value → Shared → Prop} {Q : Value → Shared → Prop} {mv dv : Value} {t1 t2 t3 : Tok} {nn : Nat} {o : Obj} {kvs : List (Int × Value)} {c : List (Int × Int)} {k : Int} {tk : Tok} {rest : List (Addr × Obj)}

theorem setitem_full {tL cT : Addr} {vsT : List Value} {nT : Nat} {oT : Obj} {v size k0 v0 : Int} {tv ts : Tok} {c2 : List (Int × Int)} (cx : Cx (n + 3) w A₀ h₀ h₀ [] e1 L loose mean mg mb D U) (F : Fr h₀ L s.heap m)
    (N : News h₀ L s.heap ((d, o) :: (x, instObj 81 dx) :: (dx, selfDict w t1 t2 t3 (.int size ts) dv d nn) :: (tL, W.listOf vsT.toArray nT) :: (cT, oT) :: rest))
    (hd1 : o.IsDictOf (PySem.intKind prg w) kvs) (hf : PyProof.V.FlatPairs PyData.int kvs (kdfD c)) (hk : kdfHas c k = false) (hc : c.length ≤ 100) (hfull : size < ((kdfPut c k v).length : Int)) (hfst : kdfPut c k v = (k0, v0) :: c2)
    (hT : vsT.length ≤ 1000) (hoT : oT.data = .cell (some (.ref tL)))
    (hlt : @LT.lt Nat _ x d ∧ @LT.lt Nat _ dx x ∧ @LT.lt Nat _ tL dx ∧ @LT.lt Nat _ cT tL) (lo : (d == sysModules) = false) (hoff : ∀ p ∈ rest, p.1 ≠ d) (hoffT : ∀ p ∈ rest, p.1 ≠ tL) (dp : Disp dv tL cT rest)
    (h : ∀ h' (o' : Obj) (kvs' : List (Int × Value)) t tk', Fr h₀ L h' m → News h₀ L h' ((d, o') :: (x, instObj 81 dx) :: (dx, selfDict w t1 t2 t3 (.int size ts) dv d nn) :: (tL, W.listOf (toldBy dv vsT (.int v0 t)).toArray (toldN dv nT)) :: (cT, oT) :: rest) →
      o'.IsDictOf (PySem.intKind prg w) kvs' → PyProof.V.FlatPairs PyData.int kvs' (kdfD (kdyDel (kdfPut c k v) k0)) → Q .none { s with heap := h', toks := tk' }) :
    wpAny (model prg w) (Ar D U g e1 []) (call (.ref 43) [.ref x, .int k tk, .int v tv]) Q E s := by
  obtain ⟨B, X, T, hf1, hk1, hD, hU⟩ := cx
  have hc2 := kdfPut_len c k v
  have hk0 : kdfHas (kdfPut c k v) k0 = true := by rw [hfst]; exact kdfHas_first _ _ _
  have hlk : kdfLook (kdfPut c k v) k0 0 = v0 := by rw [hfst]; exact kdfLook_first _ _ _
  w_on
  rcases dp with rfl | ⟨f, qual, pm, c', ctv, oc, vs, t, rfl, hm1, hm2, ho1, ho2⟩
  · w_strict walk_at "ruc enterS"
    w_strict k_steps
    rename Fr h₀ _ _ _ => kF
    rename News h₀ _ _ _ => kN
    exact h _ _ _ s.toks _ kF (fun p hp => kN p (.tail _ (.tail _ hp))) (by assumption) (by assumption)
  · w_strict walk_at "ruc enterS"
    w_strict k_steps
    rename Fr h₀ _ _ _ => kF
    rename News h₀ _ _ _ => kN
    rw [List.push_toArray, hlk] at kN
    exact h _ _ _ _ _ kF (fun p hp => kN p (.tail _ (.tail _ hp))) (by assumption) (by assumption)
end
end Ruc
end
section
open PySem PySem.W PySem.Calls PySem.Spec PyProof.Rows
set_option maxHeartbeats 1000000
namespace Ruc
theorem fill7 : PySem.Challenge.rw_ew0039_01.row.prog = PySem.Challenge.rw_ew0039_01.row.prog ∧ hd.heap_39 = hd.heap_39 := by k_fill; exact ⟨rfl, rfl⟩
local macro_rules | `(tactic| walk_at "getMethod ref") => `(tactic| (k_here; k_dflt (refine' getMethod_tab_any (knd := PySem.intKind _ _) (enc := PyData.int) ?k1 ?k2 ?_; (case k1 => exact rfl); (case k2 => k_tabat); k_whole)))
local macro_rules | `(tactic| k_room) => `(tactic| (simp only [depth_under_make, depth_under_kw, depth_in1, depth_deeper, depth_caller, Ar]; omega))
local macro_rules | `(tactic| k_mem) => `(tactic| assumption)
local macro_rules | `(tactic| k_all) => `(tactic| assumption)
local macro_rules | `(tactic| walk_at "call builtin:dict.pop") => `(tactic| (k_here; k_dflt (refine pop_miss (by rfl) (by k_tabat) (by assumption) ?_); intro h' e' x'))
local macro_rules | `(tactic| walk_at "leaving ref") => `(tactic| (k_here; (refine' leave_newS ?k1 ?k0 ?k2 ?k3 ?_; (case k0 => assumption); (case k2 => assumption); (case k1 => assumption); (case k3 => k_asm); k_whole; intro h' S' R' U'; (try dsimp only at S' R' U' ⊢))))
local macro_rules | `(tactic| walk_at "truthy ref") => `(tactic| (k_here; k_dflt (refine truthy_fn ⟨_, News.get (by k_asm) (by k_mem), rfl⟩ ?_)))
local macro_rules | `(tactic| walk_at "getMethod ref") => `(tactic| (k_here; (with_reducible show wpAny _ _ (getMethod (Value.ref _) (Str.ofString "dispose_func") _) _ _ _); k_dflt (refine' method_attr ?k1 ?k2 ?k3 ?k4 ?k5 ?_; (case k1 => k_in); (case k2 => k_inst); (case k3 => k_is); (case k4 => k_is); (case k5 => k_is); k_whole)))
local macro_rules | `(tactic| walk_at "callWith ref") => `(tactic| (k_here; k_dflt (refine' callWith_F ?k1 ?_; (case k1 => exact FnAt.of (by k_asm) (by k_mem)); k_whole)))
local macro_rules | `(tactic| walk_at "FnAt") => `(tactic| (k_dflt (exact FnAt.of (by k_asm) (by k_mem))))
local macro_rules | `(tactic| walk_at "call ref") => `(tactic| (k_here; (dsimp only [List.nil_append, List.cons_append]); k_dflt (refine' lam_call (n := 0) ?cx ?F ?N ?U ?m1 ?m2 ?oT ?m3 ?m4 ?oc ?vs ?sz ?_; (case cx => exact ⟨by assumption, by assumption, by assumption, rfl, rfl, by (first | (dsimp only [Ar]; omega) | (simp only [depth_deeper, depth_in1, Around.deeper_units, Around.in1_units, Ar]; omega)), by (first | (dsimp only [Ar]; omega) | (simp only [depth_deeper, depth_in1, Around.deeper_units, Around.in1_units, Ar]; omega))⟩); (case F => k_asm); (case N => k_asm); (case m3 => k_mem); (case m4 => k_mem); (case m2 => k_mem); (case oT => assumption); (case m1 => k_mem); (case oc => assumption); (case vs => assumption); (case sz => assumption); (case U => k_upd)); intro h' tk' F' N'))
local macro_rules | `(tactic| walk_at "call builtin:len") => `(tactic| (k_here; (with_reducible show wpAny _ _ (call (Value.builtin "len") [Value.ref _]) _ _ _); k_dflt (refine kdf_len (by k_tabat) (by omega) ?_)))
local macro_rules | `(tactic| walk_at "ruc enter") => `(tactic| (refine wpAny_call ?_; (refine' code_def ?B ?F ?X ?N ?T rfl ?f1 ?f2 ?k6 ?k7 ?k8 ?k9 ?kB ?_ ?c2 ?c3 ?c4 ?c5; (case B => assumption); (case F => assumption); (case X => assumption); (case N => assumption); (case T => assumption); (case f1 => assumption); (case f2 => assumption); (case k6 => k_is); (case k7 => k_is); (case k8 => k_room); (case k9 => exact BindsTo.of_eq rfl); (case c5 => decide); (case kB => exact locs rfl); (case c2 => exact rfl); (case c3 => exact rfl); (case c4 => exact rfl); k_whole; intro g' L' h' FG' F' N' B' X' T'; (try dsimp only); (try k_lift B'); (try k_fold))))
local macro_rules | `(tactic| walk_at "ruc enterS") => `(tactic| (refine wpAny_call ?_; (refine' enterS0 ?B ?F ?X ?N ?T rfl ?f1 ?f2 ?k6 ?k7 ?k8 ?k9 ?kB ?_ ?c2 ?c3 ?c4 ?c5; (case B => assumption); (case F => assumption); (case X => assumption); (case N => assumption); (case T => assumption); (case f1 => assumption); (case f2 => assumption); (case k6 => k_is); (case k7 => k_is); (case k8 => k_room); (case k9 => exact BindsTo.of_eq rfl); (case c5 => decide); (case kB => exact locs rfl); (case c2 => exact rfl); (case c3 => exact rfl); (case c4 => exact rfl); k_whole; intro g' L' h' FG' F' N' B' X' T' D'; (try dsimp only); (try k_lift B'); (try k_fold))))
local macro_rules | `(tactic| walk_at "noteFrame ref") => `(tactic| (k_here; (with_reducible rename Heap.NewExc _ _ _ _ => nxX); k_dflt (refine' caught_here (T' := "KeyError") nxX ?F ?N ?K ?XB ?TB ?D ?ex PyProof.Rows.Boot.«KeyError» ?hn kr_isExc_KeyError kr_notTuple_KeyError ?hs ?_; (case F => assumption); (case N => assumption); (case K => assumption); (case XB => assumption); (case TB => assumption); (case D => assumption); (case hs => kts_sub); (case ex => k_is); (case hn => decide); k_whole); intro h' g' T' F' N' K' X' P' D'; (try k_lift K'); (try k_sweep)))
theorem del_own {M : Model} {A : Around} {E : Value → Shared → Prop} {s : Shared} {K : Frag} {x C L f : Addr} {h₀ : Heap} {m : Str → Option Value} {ox : Obj} {od : Option Obj} {i : Value} {Q : Unit → Shared → Prop} (F : Fr h₀ L s.heap m) (X₀ : K.In h₀) (I : InstAt s.heap x ox C od) (hq : noSeq K C = true)
    (hs : findIn K (.ref C) "__delitem__" = some (some (.ref f))) (hf : isFn K (.ref f) = true) (h : wpAny M A (call (.ref f) [.ref x, i]) (fun _ s' => Q () s') E s) : wpAny M A (delItem (.ref x) i) Q E s := by
  have X := X₀.keeps F.keep
  unfold delItem sequenceKey
  refine wpAny_holding (wpAny_bind (wpAny_bind (I.type.here ?_)))
  refine wpAny_bind ((anyM_none X hq).here ?_)
  rw [if_pos (show (!false) = true from rfl)]
  exact wpAny_pure (wpAny_bind (special_fn X I hs (beq_iff_eq.mp hf) (wpAny_mono h (fun _ _ z => wpAny_pure z) fun _ _ z => z)))
theorem list_own {prog : Program} {w : World} {A : Around} {E : Value → Shared → Prop} {s : Shared} {K : Frag} {x C L f : Addr} {h₀ : Heap} {m : Str → Option Value} {ox : Obj} {od : Option Obj} {news : List (Addr × Obj)} {Q : Value → Shared → Prop} (F : Fr h₀ L s.heap m) (X₀ : K.In h₀) (N : News h₀ L s.heap news) (I : InstAt s.heap x ox C od)
    (hs : findIn K (.ref C) "__iter__" = some (some (.ref f))) (hf : isFn K (.ref f) = true)
    (h : ∀ S h', Fr h₀ L h' m → News h₀ L h' ((S, W.listOf #[] 0) :: news) → wpAny (model prog w) A.in1.in1 (call (.ref f) [.ref x]) (fun _ _ => False) E { s with heap := h' }) :
    wpAny (model prog w) A (call (.type "list") [.ref x]) Q E s := by
  refine callType_codes (Q₁ := fun obj s₁ => obj = .ref s.heap.objs.size ∧ s₁ = { s with heap := s.heap.push { cls := .type "list", data := .seq #[] } }) PySem.F.called_list (PySem.F.typeCall_list_1 _) PySem.F.entry_list_init
    (code_list_new _ ⟨rfl, rfl⟩) fun obj s₁ h₁ => ?_
  obtain ⟨rfl, rfl⟩ := h₁
  have hS : (s.heap.push { cls := .type "list", data := .seq #[] }).get? s.heap.objs.size = some { cls := .type "list", data := .seq #[] } := Heap.get?_push_size _ rfl
  refine ⟨⟨_, hS, rfl⟩, PySem.F.args_list_init_2 _ _, ?_⟩
  show wpAny _ _ (do let old ← Builtin.List.listItems (.ref s.heap.objs.size); Builtin.List.listUpdate (.ref s.heap.objs.size) (fun _ => #[]); letGo old.toList.reverse; Builtin.List.listExtendWith (.ref s.heap.objs.size) (.ref x) .none) _ _ _
  have hSz : ∀ b o, s.heap.get? b = some o → b ≠ s.heap.objs.size := fun b o e => Nat.ne_of_lt (Heap.lt_size e)
  refine wpAny_bind ?_
  unfold Builtin.List.listItems
  refine wpAny_bind (wpAny_seqItems hS rfl (wpAny_pure ?_))
  show wpAny _ _ (updateSeq s.heap.objs.size (fun _ => #[]) >>= fun _ => letGo (#[] : Array Value).toList.reverse >>= fun _ => Builtin.List.listExtendWith (.ref s.heap.objs.size) (.ref x) .none) _ _ _
  refine wpAny_bind (wpAny_updateSeq hS rfl ?_)
  have hS₂ := Heap.get?_update_self (Obj.mapSeq (fun _ => (#[] : Array Value))) hS rfl
  have oth : ∀ b o, s.heap.get? b = some o → ((s.heap.push { cls := .type "list", data := .seq #[] }).update s.heap.objs.size (Obj.mapSeq (fun _ => (#[] : Array Value)))).get? b = some o :=
    fun b o e => (Heap.get?_update_other _ _ (Ne.symm (hSz b o e))).trans (Heap.get?_push_of_some _ e)
  refine wpAny_bind (wpAny_letGo ?_)
  have F' := F.keeps oth
  have N' : News h₀ L ((s.heap.push { cls := .type "list", data := .seq #[] }).update s.heap.objs.size (Obj.mapSeq (fun _ => (#[] : Array Value)))) ((s.heap.objs.size, W.listOf #[] 0) :: news) := by
    intro p hp
    rcases List.mem_cons.mp hp with rfl | hp
    · exact ⟨hS₂, Nat.ne_of_gt F.ns.lt, next_is_new F⟩
    · exact ⟨oth _ _ (N p hp).1, (N p hp).2⟩
  have I' : W.InstAt ((s.heap.push { cls := .type "list", data := .seq #[] }).update s.heap.objs.size (Obj.mapSeq (fun _ => (#[] : Array Value)))) x ox C od := by
    refine ⟨oth _ _ I.at_, I.cls, I.no, ?_⟩
    have z := I.dict
    revert z
    cases ox.dict <;> cases od <;> first | exact id | (intro z; exact oth _ _ z)
  unfold Builtin.List.listExtendWith
  refine wpAny_bind (I'.type.here ?_)
  have h1 : Builtin.List.listSameRef (.ref s.heap.objs.size) (.ref x) = false := by
    have : s.heap.objs.size ≠ x := Ne.symm (hSz _ _ I.at_)
    simp [Builtin.List.listSameRef, this]
  have h2 : (Value.ref C == Value.type "list") = false := by rfl
  have h3 : (Value.ref C == Value.type "tuple") = false := by rfl
  simp only [h1, h2, h3, Bool.or_false, Bool.false_eq_true, if_false]
  refine wpAny_bind (owit_iter F' X₀ I' hs hf (wpAny_mono (h _ _ F' N') (fun _ _ z => z.elim) fun e s' z => z))
local macro_rules | `(tactic| walk_at "delItem ref int") => `(tactic| (k_here; k_dflt (refine' del_own ?F ?X ?I ?hQ ?hS ?hF ?_; (case F => k_asm); (case X => k_asm); (case I => k_inst); (case hS => k_is); (case hF => k_is); (case hQ => k_is); k_whole)))
local macro_rules | `(tactic| walk_at "call type:list") => `(tactic| (k_here; (with_reducible show wpAny _ _ (call (Value.type "list") [Value.ref _]) _ _ _); k_dflt (refine' list_own ?F ?X ?N ?I ?hS ?hF ?_; (case F => k_asm); (case X => k_asm); (case N => k_asm); (case I => k_inst); (case hS => k_is); (case hF => k_is); k_whole); intro S' h' F' N'; (try k_sweep)))
section
variable {w : World} {A₀ : Around} {base h₀ : Heap} {outer : List Env} {e1 : Env} {L x dx d : Addr} {loose : List Str} {mean : ExcName → Option Value} {m mg mb : Str → Option Value} {D U n : Nat}
  {g : Option (List Code)} {s : Shared} {E : Value → Shared → Prop} {Q : Value → Shared → Prop} {mv dv : Value} {t1 t2 t3 : Tok} {nn : Nat} {o : Obj} {kvs : List (Int × Value)} {c : List (Int × Int)} {k : Int} {tk : Tok} {rest : List (Addr × Obj)}

theorem got_hit (cx : Cx (n + 5) w A₀ h₀ h₀ [] e1 L loose mean mg mb D U) (F : Fr h₀ L s.heap m)
    (N : News h₀ L s.heap ((d, o) :: (x, instObj 81 dx) :: (dx, selfDict w t1 t2 t3 mv dv d nn) :: rest))
    (hd1 : o.IsDictOf (PySem.intKind prg w) kvs) (hf : PyProof.V.FlatPairs PyData.int kvs (kdfD c)) (hk : kdfHas c k = true) (hc : c.length ≤ 100)
    (hlt : @LT.lt Nat _ x d ∧ @LT.lt Nat _ dx x) (lo : (d == sysModules) = false) (hoff : ∀ p ∈ rest, p.1 ≠ d)
    (h : ∀ B nB h' (o' : Obj) (kvs' : List (Int × Value)) t tk', Fr h₀ L h' m → News h₀ L h' ((B, W.listOf #[.int (kdfLook c k 0) t] nB) :: (d, o') :: (x, instObj 81 dx) :: (dx, selfDict w t1 t2 t3 mv dv d nn) :: rest) → @LT.lt Nat _ d B → AllLt B rest →
      o'.IsDictOf (PySem.intKind prg w) kvs' → PyProof.V.FlatPairs PyData.int kvs' (kdfD (kdfPut (kdyDel c k) k (kdfLook c k 0))) → Q (.ref B) { s with heap := h', toks := tk' }) :
    wpAny (model prg w) (Ar D U g e1 []) (call (.ref 92) [.ref x, .int k tk]) Q E s := by
  obtain ⟨B, X, T, hf1, hk1, hD, hU⟩ := cx
  have hc2 := kdyDel_len c k
  w_on
  w_strict walk_at "ruc enterS"
  w_strict k_steps
  rename Fr h₀ _ _ _ => kF
  rename News h₀ _ _ _ => kN
  rename _ ∧ _ ∧ _ ∧ AllLt _ rest => l1
  exact h _ _ _ _ _ _ _ kF kN l1.1 l1.2.2.2 (by assumption) (by assumption)
theorem got_miss (cx : Cx (n + 5) w A₀ h₀ h₀ [] e1 L loose mean mg mb D U) (F : Fr h₀ L s.heap m)
    (N : News h₀ L s.heap ((d, o) :: (x, instObj 81 dx) :: (dx, selfDict w t1 t2 t3 mv dv d nn) :: rest))
    (hd1 : o.IsDictOf (PySem.intKind prg w) kvs) (hf : PyProof.V.FlatPairs PyData.int kvs (kdfD c)) (hk : kdfHas c k = false) (hc : c.length ≤ 100)
    (hlt : @LT.lt Nat _ x d ∧ @LT.lt Nat _ dx x) (lo : (d == sysModules) = false) (hoff : ∀ p ∈ rest, p.1 ≠ d)
    (h : ∀ B nB h' tk', Fr h₀ L h' m → News h₀ L h' ((B, W.listOf #[] nB) :: (d, o) :: (x, instObj 81 dx) :: (dx, selfDict w t1 t2 t3 mv dv d nn) :: rest) → @LT.lt Nat _ d B → AllLt B rest → Q (.ref B) { s with heap := h', toks := tk' }) :
    wpAny (model prg w) (Ar D U g e1 []) (call (.ref 92) [.ref x, .int k tk]) Q E s := by
  obtain ⟨B, X, T, hf1, hk1, hD, hU⟩ := cx
  w_on
  w_strict walk_at "ruc enterS"
  w_strict k_steps
  rename Fr h₀ _ _ _ => kF
  rename News h₀ _ _ _ => kN
  rename _ ∧ _ ∧ _ ∧ AllLt _ rest => l1
  exact h _ _ _ _ kF kN l1.1 l1.2.2.2
theorem taken_hit {tL cT : Addr} {vsT : List Value} {nT : Nat} {oT : Obj} (cx : Cx (n + 5) w A₀ h₀ h₀ [] e1 L loose mean mg mb D U) (F : Fr h₀ L s.heap m)
    (N : News h₀ L s.heap ((d, o) :: (x, instObj 81 dx) :: (dx, selfDict w t1 t2 t3 mv dv d nn) :: (tL, W.listOf vsT.toArray nT) :: (cT, oT) :: rest))
    (hd1 : o.IsDictOf (PySem.intKind prg w) kvs) (hf : PyProof.V.FlatPairs PyData.int kvs (kdfD c)) (hk : kdfHas c k = true) (hc : c.length ≤ 100) (hT : vsT.length ≤ 1000) (hoT : oT.data = .cell (some (.ref tL)))
    (hlt : @LT.lt Nat _ x d ∧ @LT.lt Nat _ dx x ∧ @LT.lt Nat _ tL dx ∧ @LT.lt Nat _ cT tL) (lo : (d == sysModules) = false) (hoff : ∀ p ∈ rest, p.1 ≠ d) (hoffT : ∀ p ∈ rest, p.1 ≠ tL) (dp : Disp dv tL cT rest)
    (h : ∀ h' (o' : Obj) (kvs' : List (Int × Value)) t tk', Fr h₀ L h' m → News h₀ L h' ((d, o') :: (x, instObj 81 dx) :: (dx, selfDict w t1 t2 t3 mv dv d nn) :: (tL, W.listOf (toldBy dv vsT (.int (kdfLook c k 0) t)).toArray (toldN dv nT)) :: (cT, oT) :: rest) →
      o'.IsDictOf (PySem.intKind prg w) kvs' → PyProof.V.FlatPairs PyData.int kvs' (kdfD (kdyDel c k)) → Q (.bool true) { s with heap := h', toks := tk' }) :
    wpAny (model prg w) (Ar D U g e1 []) (call (.ref 99) [.ref x, .int k tk]) Q E s := by
  obtain ⟨B, X, T, hf1, hk1, hD, hU⟩ := cx
  have hc2 := kdyDel_len c k
  w_on
  rcases dp with rfl | ⟨f, qual, pm, c', ctv, oc, vs, t, rfl, hm1, hm2, ho1, ho2⟩
  · w_strict walk_at "ruc enterS"
    w_strict k_steps
    rename Fr h₀ _ _ _ => kF
    rename News h₀ _ _ _ => kN
    exact h _ _ _ s.toks _ kF kN (by assumption) (by assumption)
  · w_strict walk_at "ruc enterS"
    w_strict k_steps
    rename Fr h₀ _ _ _ => kF
    rename News h₀ _ _ _ => kN
    rw [List.push_toArray] at kN
    exact h _ _ _ _ _ kF kN (by assumption) (by assumption)
theorem taken_miss (cx : Cx (n + 5) w A₀ h₀ h₀ [] e1 L loose mean mg mb D U) (F : Fr h₀ L s.heap m)
    (N : News h₀ L s.heap ((d, o) :: (x, instObj 81 dx) :: (dx, selfDict w t1 t2 t3 mv dv d nn) :: rest))
    (hd1 : o.IsDictOf (PySem.intKind prg w) kvs) (hf : PyProof.V.FlatPairs PyData.int kvs (kdfD c)) (hk : kdfHas c k = false) (hc : c.length ≤ 100)
    (hlt : @LT.lt Nat _ x d ∧ @LT.lt Nat _ dx x) (lo : (d == sysModules) = false) (hoff : ∀ p ∈ rest, p.1 ≠ d)
    (h : ∀ h' tk', Fr h₀ L h' m → News h₀ L h' ((d, o) :: (x, instObj 81 dx) :: (dx, selfDict w t1 t2 t3 mv dv d nn) :: rest) → Q (.bool false) { s with heap := h', toks := tk' }) :
    wpAny (model prg w) (Ar D U g e1 []) (call (.ref 99) [.ref x, .int k tk]) Q E s := by
  obtain ⟨B, X, T, hf1, hk1, hD, hU⟩ := cx
  w_on
  w_strict walk_at "ruc enterS"
  w_strict k_steps
  rename Fr h₀ _ _ _ => kF
  rename News h₀ _ _ _ => kN
  exact h _ _ kF kN
theorem walked_spec (cx : Cx (n + 5) w A₀ h₀ h₀ [] e1 L loose mean mg mb D U) (F : Fr h₀ L s.heap m)
    (N : News h₀ L s.heap ((x, instObj 81 dx) :: (dx, selfDict w t1 t2 t3 mv dv d nn) :: rest))
    (h : ∀ h' tk', Fr h₀ L h' m → News h₀ L h' ((x, instObj 81 dx) :: (dx, selfDict w t1 t2 t3 mv dv d nn) :: rest) → Q (.bool false) { s with heap := h', toks := tk' }) :
    wpAny (model prg w) (Ar D U g e1 []) (call (.ref 106) [.ref x]) Q E s := by
  obtain ⟨B, X, T, hf1, hk1, hD, hU⟩ := cx
  w_on
  w_strict walk_at "ruc enterS"
  w_strict k_steps
  rename Fr h₀ _ _ _ => kF
  rename News h₀ _ _ _ => kN
  first
    | exact h _ _ kF kN
    | exact h _ _ kF (fun p hp => kN p (.tail _ hp))
end
end Ruc
end
section
open PySem PySem.W PySem.Calls PySem.Spec PyProof.Rows
set_option maxHeartbeats 400000
namespace Ruc
theorem entry_set_ne : entryFor table "set.__ne__" = some Builtin.«frozenset.__ne__» :=
  entryFor_alias (id' := "frozenset.__ne__") (by kernel_rfl) rfl (by decide +kernel) (by kernel_rfl)
theorem sub_keys_set : isSubtype (.type "dict_keys") (.type "set") = pure false := by rw [isSubtype_type]; kernel_rfl
theorem sub_keys_frozenset : isSubtype (.type "dict_keys") (.type "frozenset") = pure false := by rw [isSubtype_type]; kernel_rfl
section
variable {prog : Program} {w : World} {A : Around} {E : Value → Shared → Prop} {s : Shared} {a b : Addr} {S : Int → Bool} {n : Nat}
theorem quiet_int {v : Value} {k : Int} (h : (PySem.intKind prog w).is k v = true) {Q : Bool → Shared → Prop} (hq : Q true s) : wpAny (model prog w) A (Builtin.Frozenset.quietEq v) Q E s := by
  obtain ⟨t, rfl⟩ := Value.isInt_shape h
  exact wpAny_pure hq
theorem subset_same {nm : String} {a b : Addr} {Q : Bool → Shared → Prop} (ha : s.heap.SetOf (PySem.intKind prog w) a S n) (hb : s.heap.SetOf (PySem.intKind prog w) b S n) (hq : Q true s) :
    wpAny (model prog w) A (Builtin.Frozenset.subsetOf nm a b) Q E s := by
  obtain ⟨oa, ea, epa, ta, hoa, hxa, hda, hela, hma, hba, hfa, hna⟩ := id ha
  obtain ⟨ob, eb, epb, tb, hob, hxb, hdb, helb, hmb, hbb, hfb, hnb⟩ := id hb
  unfold Builtin.Frozenset.subsetOf
  refine wpAny_bind (wpAny_bind (wpAny_setEntries_of hoa hda hfa (wpAny_pure ?_)))
  refine wpAny_bind (wpAny_bind (wpAny_setEntries_of hob hdb hfb (wpAny_pure ?_)))
  rw [if_neg (by omega)]
  refine wpAny_bind (wpAny_setEpoch_of hoa hda hfa ?_)
  refine wpAny_bind (m := Builtin.Frozenset.walkUnseen _ _) ?_
  unfold Builtin.Frozenset.walkUnseen
  refine wpAny_bind (wpAny_setEntries_of hoa hda hfa ?_)
  refine wpAny_bind (wpAny_setEntries_of hob hdb hfb ?_)
  dsimp only
  refine wpAny_bind (wpAny_forIn_list _ (fun l r s' => r.1 = none ∧ s' = s ∧ ∀ e ∈ l, ∃ k, (PySem.intKind prog w).is k e.2 = true) _ (fun x rest r s' hI => ?_) (fun r s' hI => ?_) _ _ ⟨rfl, rfl, fun e he => ?_⟩)
  · obtain ⟨hr, rfl, hl⟩ := hI
    obtain ⟨k, hk⟩ := hl x (.head _)
    refine wpAny_bind (quiet_int hk ?_)
    exact wpAny_pure ⟨rfl, rfl, fun e he => hl e (.tail _ he)⟩
  · obtain ⟨hr, rfl, hl⟩ := hI
    obtain ⟨r1, r2⟩ := r
    dsimp only at hr
    subst hr
    refine wpAny_pure ?_
    (try dsimp only)
    refine wpAny_bind (wpAny_forIn_list _ (fun l r s'' => r.1 = none ∧ s'' = s' ∧ ∀ e ∈ l, e ∈ ea.toList) _ (fun x rest r s'' hI => ?_) (fun r s'' hI => ?_) _ _ ⟨rfl, rfl, fun e he => he⟩)
    · obtain ⟨hr, rfl, hl⟩ := hI
      have hx := hl x (.head _)
      obtain ⟨⟨k, hk, hh⟩, hsc⟩ := hela x hx
      obtain ⟨xh, xv⟩ := x
      dsimp only at hk hh hsc ⊢
      subst hh
      refine wpAny_bind (wpAny_holding (wpAny_setFind_of hk hsc hb fun r hr => ?_))
      have hS : S k = true := (hma k).mpr ⟨_, hx, hk⟩
      rw [hS] at hr
      cases r with
      | none => cases hr
      | some j =>
        simp only [Option.isNone_some, Bool.false_eq_true, if_false]
        refine wpAny_bind (m := Builtin.Frozenset.unchanged _ _ _) ?_
        unfold Builtin.Frozenset.unchanged
        refine wpAny_bind (wpAny_setEpoch_of hoa hda hfa ?_)
        simp only [bne_self_eq_false, Bool.false_eq_true, if_false]
        exact wpAny_pure (wpAny_pure ⟨rfl, rfl, fun e he => hl e (.tail _ he)⟩)
    · obtain ⟨hr, rfl, hl⟩ := hI
      obtain ⟨r1, r2⟩ := r
      dsimp only at hr
      subst hr
      exact wpAny_pure hq
  · rcases List.mem_append.mp he with he | he
    · obtain ⟨⟨k, hk, _⟩, _⟩ := hela e he; exact ⟨k, hk⟩
    · obtain ⟨⟨k, hk, _⟩, _⟩ := helb e he; exact ⟨k, hk⟩
theorem ne_sets {Q : Value → Shared → Prop} (ha : s.heap.SetOf (PySem.intKind prog w) a S n) (hb : s.heap.SetOf (PySem.intKind prog w) b S n) (hu : A.units < cLine) (hq : Q (.bool false) s) :
    wpAny (model prog w) A (compareOp .NotEq (.ref a) (.ref b)) Q E s := by
  show wpAny _ _ (richCompare .NotEq (.ref a) (.ref b)) _ _ _
  refine wpAny_richCompare_same_room ha.typeIs hb.typeIs F.slot_set_ne (wpAny_call_entry F.slot_set_ne ha.typeIs entry_set_ne ?_ (F.args_set_ne_2 _ _)) hu
  obtain ⟨oa, ea, epa, ta, hoa, hxa, hda, hela, hma, hba, hfa, hna⟩ := id ha
  obtain ⟨ob, eb, epb, tb, hob, hxb, hdb, helb, hmb, hbb, hfb, hnb⟩ := id hb
  unfold Builtin.«frozenset.__ne__»
  wp_delta
  unfold Builtin.Frozenset.slot1 slotArgs
  refine wpAny_bind (wpAny_bind (wpAny_pure (wpAny_pure ?_)))
  dsimp only
  refine wpAny_bind (m := Builtin.Frozenset.isAnySet _) ?_
  unfold Builtin.Frozenset.isAnySet
  show wpAny _ _ (isInstance (.ref b) (.type "set") >>= _) _ _ _
  refine wpAny_bind (wpAny_isInstance hb.typeIs sub_set_self ?_)
  refine wpAny_pure ?_
  simp only [Bool.not_true, Bool.false_eq_true, if_false]
  unfold Builtin.Frozenset.addrOf
  refine wpAny_bind (wpAny_pure ?_)
  refine wpAny_bind (wpAny_pure ?_)
  refine wpAny_bind (m := Builtin.Frozenset.sizeOf _) (wpAny_bind (wpAny_setEntries_of hoa hda hfa (wpAny_pure ?_)))
  refine wpAny_bind (m := Builtin.Frozenset.sizeOf _) (wpAny_bind (wpAny_setEntries_of hob hdb hfb (wpAny_pure ?_)))
  have hsz : (ea.size != eb.size) = false := by rw [hna, hnb]; simp
  rw [hsz]
  simp only [Bool.false_eq_true, if_false]
  refine wpAny_bind ?_
  refine wpAny_bind (m := isInstance _ _ <&&> _) ?_
  show wpAny _ _ (isInstance (.ref a) (.type "frozenset") >>= _) _ _ _
  refine wpAny_bind (wpAny_isInstance ha.typeIs PySem.F.sub_set_frozenset ?_)
  refine wpAny_pure ?_
  simp only [Bool.false_eq_true, if_false]
  refine subset_same ha hb ?_
  exact wpAny_pure ⟨_, rfl, (fun x => nomatch x), hq⟩
end
end Ruc
end
section
open PySem PySem.W PySem.Calls PySem.Spec PyProof.Rows
set_option maxHeartbeats 3200000
namespace Ruc
section
variable {prog : Program} {w : World} {A : Around} {E : Value → Shared → Prop} {s : Shared}
abbrev setHas (ks : List Int) : Int → Bool := fun k' => (firstMet (fun i => ks.getD i 0) ks.length).any (· == k')
abbrev setLen (ks : List Int) : Nat := (firstMet (fun i => ks.getD i 0) ks.length).length
theorem setInit_iter {M : Model} {S l d : Addr} {led : Bool} {odict : Option Addr} {osl : Array (Option Value)} {Q : PySem.Fin → Shared → Prop}
    (hS : s.heap.get? S = some { cls := .type "set", dict := none, data := .set #[] 0 (.fresh 0 0 led) })
    (hl : s.heap.get? l = some { cls := .type "dict_keys", dict := odict, data := .fields #[.ref d], slots := osl })
    (h : wpAny M A (pyIter (.ref l)) (fun a s' => wpAny M A (do let _ ← runValue (Code.builtin "set.update.loop" { pos := [.ref S, a] }); pure ()) (fun _ s' => wpAny M A (ret Value.none) Q E s') E s') E s) :
    wpAny M A (Builtin.«set.__init__» { pos := [.ref S, .ref l] }) Q E s := by
  have hT : Shared.TypeIs s (.ref S) "set" := ⟨_, hS, rfl⟩
  have hsls := sub_keys_set
  have hslf := sub_keys_frozenset
  have hne : (Value.type "dict_keys" == Value.type "dict") = false := by decide
  unfold Builtin.«set.__init__» noKeywords Builtin.Frozenset.updateFrom
  generalize hPI : pyIter = PI at h ⊢
  wp_walk
  exact h
theorem call_set_keys {l d : Addr} {kvs : List (Int × Value)} {ep : Nat} {Q : Value → Shared → Prop}
    (hh : A.handled = none) (hl : KdlKeysView s.heap l d) (hm : s.heap.DictAt (PySem.intKind prog w) d kvs ep) (hb : kvs.length + 1 < scanBound)
    (h : ∀ (h' : Heap) (tk : Nat), h'.SetOf (intKind prog w) s.heap.objs.size (setHas (kvs.map (·.1))) (setLen (kvs.map (·.1))) →
      (∀ b o, b < s.heap.objs.size → s.heap.get? b = some o → h'.get? b = some o) → Q (.ref s.heap.objs.size) { s with heap := h', toks := tk }) :
    wpAny (model prog w) A (call (.type "set") [.ref l]) Q E s := by
  obtain ⟨c, tl, hmro⟩ := F.called_set.mro
  have hmade := F.called_set.made
  have hsub := F.called_set.sub
  refine wpAny_call (codeAny_of_tree ?_)
  show wpAny _ _ (callAny (.type "set") _) _ _ _
  refine wpAny_pure ⟨Code.quiet_builtin _ (by decide +kernel), codeAny_builtin F.entry_type_call ?_⟩
  rw [Around.under_plain (weight_type_call_type "set" [.ref l] []) rfl]
  have h1 := F.called_set.notType
  have h2 := F.called_set.canCreate
  have hct := F.typeCall_set_1 (.ref l)
  repeat (any_goals (first | assumption | wp_step))
  refine codeAny_mono (code_set_new_1 (.ref l) (E := E) (Q₁ := fun obj s₁ => ∃ led : Bool, obj = .ref s.heap.objs.size ∧ s₁ = { s with heap := s.heap.push { cls := .type "set", dict := none, data := .set #[] 0 (.fresh 0 0 led) } }) fun led => ⟨led, rfl, rfl⟩) fun r s₁ hr => ?_
  cases r with
  | error e => exact hr
  | ok fl =>
    cases fl with
    | ret obj =>
      obtain ⟨led, rfl, rfl⟩ := hr
      have hS : (s.heap.push { cls := .type "set", dict := none, data := .set #[] 0 (.fresh 0 0 led) }).get? s.heap.objs.size = some { cls := .type "set", dict := none, data := .set #[] 0 (.fresh 0 0 led) } := Heap.get?_push_size _ rfl
      have hT : Shared.TypeIs { s with heap := s.heap.push { cls := .type "set", dict := none, data := .set #[] 0 (.fresh 0 0 led) } } (.ref s.heap.objs.size) "set" := ⟨_, hS, rfl⟩
      have hli := F.called_set.init.lookup
      have hbi := F.called_set.init.bind (.ref s.heap.objs.size)
      repeat (any_goals (first | assumption | wp_step))
      refine codeAny_mono (codeAny_call_builtin (R := wants (fun r s₂ => r = .none ∧ ∃ h' tk, s₂ = { s with heap := h', toks := tk } ∧
          h'.SetOf (intKind prog w) s.heap.objs.size (setHas (kvs.map (·.1))) (setLen (kvs.map (·.1))) ∧
          (∀ b o, b < s.heap.objs.size → s.heap.get? b = some o → h'.get? b = some o)) E) F.called_set.init.plain F.entry_set_init (check_set_init_1 hT ?_)) fun r₂ s₂ hr₂ => ?_
      · obtain ⟨⟨ocls, odict, odata, oslots⟩, hol, hcl, hdl⟩ := id hl
        simp only at hcl hdl
        subst hcl; subst hdl
        have hol' : (s.heap.push { cls := .type "set", dict := none, data := .set #[] 0 (.fresh 0 0 led) }).get? l = some { cls := .type "dict_keys", dict := odict, data := .fields #[.ref d], slots := oslots } := Heap.get?_push_of_some _ hol
        have hl1 : KdlKeysView (s.heap.push { cls := .type "set", dict := none, data := .set #[] 0 (.fresh 0 0 led) }) l d := ⟨_, hol', rfl, rfl⟩
        have hm1 := hm.push { cls := .type "set", dict := none, data := .set #[] 0 (.fresh 0 0 led) }
        have hsls := sub_keys_set
        have hslf := sub_keys_frozenset
        have hne : (Value.type "dict_keys" == Value.type "dict") = false := by decide
        refine setInit_iter hS hol' ?_
        refine kdl_pyIter_keys hl1 hm1 ?_
        refine wpAny_bind (wpAny_runValue ?_)
        have hdS : d < s.heap.objs.size := hm.lt_size
        have hh3 : A.in1.in1.in1.handled = none := by simp [hh]
        have hneI : d ≠ (s.heap.push { cls := .type "set", dict := none, data := .set #[] 0 (.fresh 0 0 led) }).objs.size := by
          rw [Heap.size_push]; exact Nat.ne_of_lt (Nat.lt_succ_of_lt hdS)
        have hSf : s.heap.objs.size ∉ [(s.heap.push { cls := .type "set", dict := none, data := .set #[] 0 (.fresh 0 0 led) }).objs.size, d] := by
          rw [Heap.size_push]; simp only [List.mem_cons, List.mem_singleton, List.not_mem_nil, or_false, not_or]
          exact ⟨Nat.ne_of_lt (Nat.lt_succ_self _), Nat.ne_of_gt hdS⟩
        have W := (Walks.dictKeys (knd := PySem.intKind prog w) hh3 (s.heap.push { cls := .type "set", dict := none, data := .set #[] 0 (.fresh 0 0 led) }).objs.size d hneI kvs ep)
        have hlen : (kvs.map (·.1)).length = kvs.length := List.length_map _
        refine PyProof.Rows.codeAny_set_update_loopS W.toS s.heap.objs.size
          hSf (fun i => (kvs.map (·.1)).getD i 0) ?hval hb (kvs.length - 0) 0 _ (by omega) (Nat.zero_le _)
          ⟨⟨_, Heap.get?_push_size _ rfl, rfl, rfl⟩, (hm1.push _)⟩ ?hS0 ?hR
        case hval =>
          intro i v hv
          obtain ⟨k, x, hx, hk⟩ := hv
          obtain ⟨t, rfl⟩ := Value.isInt_shape hk
          exact ⟨t, by simp [hx]⟩
        case hS0 =>
          have hget : ((s.heap.push { cls := .type "set", dict := none, data := .set #[] 0 (.fresh 0 0 led) }).push { cls := .type "dict_keyiterator", data := .fields #[.ref d, .int 0 0, .int kvs.length 0, .int ep 0] }).get? s.heap.objs.size
              = some { cls := .type "set", dict := none, data := .set #[] 0 (.fresh 0 0 led) } := Heap.get?_push_of_some _ hS
          exact PyProof.Rows.SetOf_congr ((PyProof.Rows.setObjOf_fresh (knd := intKind prog w) led).setOf hget (by unfold scanBound; omega)) (fun _ => rfl) rfl
        case hR =>
          intro s' hm hS'
          obtain ⟨h', g', d', tk', os'⟩ := s'
          have eg : g' = s.gens := hm.gens
          have ed : d' = s.drawn := hm.drawn
          have eo : os' = s.os := hm.os
          subst eg; subst ed; subst eo
          show wpAny _ _ _ _ _ _
          refine wpAny_pure ?_
          show wpAny _ _ (ret Value.none) _ _ _
          refine wpAny_pure ⟨rfl, h', tk', rfl, by unfold setHas setLen; rw [hlen]; exact hS', fun b o hb e => ?_⟩
          have hb1 : b ≠ s.heap.objs.size := Nat.ne_of_lt hb
          have hb2 : b ≠ (s.heap.push { cls := .type "set", dict := none, data := .set #[] 0 (.fresh 0 0 led) }).objs.size := by
            rw [Heap.size_push]; exact Nat.ne_of_lt (Nat.lt_succ_of_lt hb)
          exact hm.heap b o (by simp only [List.mem_cons, List.mem_singleton, List.not_mem_nil, or_false, not_or]; exact ⟨hb1, hb2⟩) (Heap.get?_push_of_some _ (Heap.get?_push_of_some _ e))
      · cases r₂ with
        | error e => exact hr₂
        | ok fl₂ =>
          cases fl₂ with
          | ret r =>
            obtain ⟨rfl, h', tk, rfl, hS', hk'⟩ := hr₂
            repeat (any_goals (first | assumption | wp_step))
            exact h _ _ hS' hk'
          | _ => exact hr₂.elim
    | _ => exact hr.elim
end
section
variable {prog : Program} {w : World} {A : Around} {E : Value → Shared → Prop} {s : Shared} {h₀ : Heap} {L : Addr} {m : Str → Option Value} {news : List (Addr × Obj)}
abbrev SetKeys (prog : Program) (w : World) (ks : List Int) (o : Obj) : Prop := o.SetObjOf (intKind prog w) (setHas ks) (setLen ks)
theorem setLen_le (ks : List Int) : setLen ks ≤ ks.length := firstMet_length_le _ _
theorem set_keys_N {l d : Addr} {o : Obj} {kvs : List (Int × Value)} {Q : Value → Shared → Prop} (F : Fr h₀ L s.heap m) (N : News h₀ L s.heap news)
    (hh : A.handled = none) (hv : (l, { cls := .type "dict_keys", data := .fields #[.ref d] }) ∈ news) (hp : (d, o) ∈ news) (hd : o.IsDictOf (intKind prog w) kvs) (hb : kvs.length + 1 < scanBound)
    (h : ∀ h' (tk : Nat) (S : Addr) so, Fr h₀ L h' m → News h₀ L h' ((S, so) :: news) → (∀ p ∈ news, p.1 < S) → SetKeys prog w (kvs.map (·.1)) so → Q (.ref S) { s with heap := h', toks := tk }) :
    wpAny (model prog w) A (call (.type "set") [.ref l]) Q E s := by
  obtain ⟨ep, hat⟩ := (kda_dict N hp hd).dictAt
  refine call_set_keys hh ⟨_, (N _ hv).1, rfl, rfl⟩ hat hb fun h' tk hS hk => ?_
  obtain ⟨so, ho, hso⟩ := hS.objOf
  have hLlt : L < s.heap.objs.size := F.ns.lt
  refine h h' tk _ so ⟨F.ns.at' fun o' e => hk L o' hLlt e, fun b o' e => hk b o' (Heap.lt_size (F.keep b o' e)) (F.keep b o' e), F.above⟩ (fun p hp => ?_) (fun p hp => Heap.lt_size (N p hp).1) hso
  rcases List.mem_cons.mp hp with rfl | hp
  · refine ⟨ho, Nat.ne_of_gt hLlt, ?_⟩
    cases hq : h₀.get? s.heap.objs.size with
    | none => rfl
    | some o' => exact absurd (Heap.lt_size (F.keep _ _ hq)) (Nat.lt_irrefl _)
  · exact ⟨hk _ _ (Heap.lt_size (N p hp).1) (N p hp).1, (N p hp).2.1, (N p hp).2.2⟩
theorem ne_sets_N {a b : Addr} {oa ob : Obj} {ks : List Int} {Q : Value → Shared → Prop} (N : News h₀ L s.heap news) (ha : (a, oa) ∈ news) (hb : (b, ob) ∈ news) (sa : SetKeys prog w ks oa) (sb : SetKeys prog w ks ob)
    (hlen : ks.length + 1 < scanBound) (hu : A.units < cLine) (hq : Q (.bool false) s) : wpAny (model prog w) A (compareOp .NotEq (.ref a) (.ref b)) Q E s :=
  have hle := setLen_le ks
  ne_sets (sa.setOf (N _ ha).1 (by omega)) (sb.setOf (N _ hb).1 (by omega)) hu hq
end
end Ruc
end
section
open PySem PySem.W PySem.Calls PySem.Spec PyProof.Rows
set_option maxHeartbeats 2000000
namespace Ruc
open LCg
theorem firstMet_list (ks : List Int) : firstMet (fun i => ks.getD i 0) ks.length = ks.foldl step_dedup [] := by
  unfold firstMet
  congr 1
  refine List.ext_getElem? fun i => ?_
  by_cases h : i < ks.length
  · simp [h]
  · simp [h, Nat.not_lt.mp h]
theorem setKeys_step {prog : Program} {w : World} {h : Heap} {a : Addr} {ks : List Int} {n : Int}
    (hS : h.SetOf (intKind prog w) a (fun k' => setHas ks k' || decide (k' = n)) (if setHas ks n then setLen ks else setLen ks + 1)) : h.SetOf (intKind prog w) a (setHas (ks ++ [n])) (setLen (ks ++ [n])) := by
  have e : ∀ l : List Int, firstMet (fun i => l.getD i 0) l.length = l.foldl step_dedup [] := firstMet_list
  refine SetOf_congr hS (fun k' => ?_) ?_
  · show ((firstMet _ _).any _ || _) = (firstMet _ _).any _
    rw [e, e, List.foldl_append]
    exact (step_any _ _ _).symm
  · show (if (firstMet _ _).any _ then (firstMet _ _).length else (firstMet (fun i => ks.getD i 0) ks.length).length + 1) = (firstMet _ _).length
    rw [e, e, List.foldl_append]
    exact (step_length _ _).symm
theorem compTurn_set (elt target iter : Expr) (ifs : List Expr) (scope : Scope) (pos : Pos) (it acc : Value) (env : Env) :
    compTurn (.SetComp elt [⟨target, iter, ifs, 0⟩] scope pos) 0 it acc env = (do
      standAt iter.pos
      match ← pyNext it with
      | none => pure (.done .next)
      | some v =>
        letOwnedTupleGo target it v
        assign target env v
        let mut ok := true
        for c in ifs do
          if ok then ok ← isTrue c env (eval c env)
        if ok then
          (do let v ← eval elt env; standAt elt.pos; let _ ← call (.builtin "set.add") [acc, v])
        again (.compLoop (.SetComp elt [⟨target, iter, ifs, 0⟩] scope pos) 0 it acc env)) := by rfl
section
variable {prog : Program} {w : World} {A : Around} {E : Value → Shared → Prop} {R : Result → Shared → Prop} {s : Shared}
theorem codeAny_compStart_set {elt target iter ifs rest scope pos it acc env}
    (h0 : codeAny (model prog w) A (.compLoop (.SetComp elt (⟨target, iter, ifs, 0⟩ :: rest) scope pos) 0 it acc env) R s)
    (h : wpAny (model prog w) A (pyIter it) (fun it' s' => codeAny (model prog w) A (.compLoop (.SetComp elt (⟨target, iter, ifs, 0⟩ :: rest) scope pos) 0 it' acc env) R s')
      (notedBy (model prog w) A env fun x s' => R (.error x) s') s) :
    codeAny (model prog w) A (.compStart (.SetComp elt (⟨target, iter, ifs, 0⟩ :: rest) scope pos) 0 it acc env) R s := by
  refine codeAny_of_tree ?_
  show wpAny _ _ ((compStart (.SetComp elt (⟨target, iter, ifs, 0⟩ :: rest) scope pos) 0 it acc env).onRaise (fun x => do noteFrame x env; standAt theWindowsPlace)) _ _ s
  refine wpAny_notedAt ?_
  unfold compStart
  show wpAny _ _ (ask >>= _) _ _ s
  refine wpAny_bind (wpAny_askSetting (wpAny_ite ?_))
  split
  · first
      | exact wpAny_bind (wpAny_pure (wpAny_pure (And.intro rfl h0)))
      | exact wpAny_pure (And.intro rfl h0)
  · first
      | exact wpAny_bind (wpAny_rule (wpAny_bind (wpAny_standAt (wpAny_bind (wpAny_mono h (fun it' s' h' => wpAny_pure (And.intro rfl h')) fun _ _ x => x)))))
      | (refine wpAny_bind (wpAny_rule ?_); show wpAny _ _ (standAt iter.pos >>= _) _ _ s; exact wpAny_bind (wpAny_standAt (wpAny_bind (wpAny_mono h (fun it' s' h' => wpAny_pure (And.intro rfl h')) fun _ _ x => x))))
theorem codeAny_compLoop_set {elt target iter : Expr} {scope : Scope} {pos : Pos} {it acc : Value} {env : Env} (I : Nat → Shared → Prop)
    (turn : ∀ n s, I n s → wpAny (model prog w) A (pyNext it) (fun r s₁ => match r with
      | none => R (.ok .next) s₁
      | some v => wpAny (model prog w) A (assign target env v) (fun _ s₂ =>
          wpAny (model prog w) A (eval elt env) (fun x s₄ =>
              wpAny (model prog w) A (call (.builtin "set.add") [acc, x]) (fun _ s₅ => ∃ m, m < n ∧ I m s₅) (notedBy (model prog w) A env fun e s' => R (.error e) s') s₄) (notedBy (model prog w) A env fun e s' => R (.error e) s') s₂)
          (notedBy (model prog w) A env fun e s' => R (.error e) s') s₁) (notedBy (model prog w) A env fun e s' => R (.error e) s') s)
    (n : Nat) (h : I n s) (ht : ∀ v, letOwnedTupleGo target it v = pure () := by intro _; rfl) :
    codeAny (model prog w) A (.compLoop (.SetComp elt [⟨target, iter, [], 0⟩] scope pos) 0 it acc env) R s := by
  refine codeAny_loop rfl I (fun n s hI => ?_) n h
  show wpAny _ A ((compTurn (.SetComp elt [⟨target, iter, [], 0⟩] scope pos) 0 it acc env).onRaise (fun x => do noteFrame x env; theTreesLotGoes x)) _ _ s
  refine wpAny_noted ?_
  rw [compTurn_set]
  refine wpAny_bind (wpAny_standAt (wpAny_bind (wpAny_mono (turn n s hI) (fun r s₁ h₁ => ?_) fun _ _ h' => h')))
  cases r with
  | none => exact wpAny_pure h₁
  | some v =>
    refine wpAny_bind (wpAny_of_eq (ht v) ?_)
    refine wpAny_bind (wpAny_mono h₁ (fun _ s₂ h₂ => wpAny_bind (wpAny_mono (wpAny_tests_nil (Q := fun ok s₃ => ok = true ∧ s₃ = s₂) ⟨rfl, rfl⟩) (fun ok s₃ h₃ => ?_) fun _ _ h' => h')) fun _ _ h' => h')
    obtain ⟨rfl, rfl⟩ := h₃
    exact wpAny_bind (wpAny_bind (wpAny_mono h₂ (fun x s₄ h₄ => wpAny_bind (wpAny_standAt (wpAny_bind (wpAny_mono h₄ (fun _ s₅ h₅ => wpAny_pure (wpAny_pure ⟨rfl, h₅⟩)) fun _ _ h' => h')))) fun _ _ h' => h'))
end
def CompRestS (prog : Program) (w : World) (A : Around) (h₀ : Heap) (L : Addr) (m : Str → Option Value) (env : Env) (elt : Expr) (x : Str) (scope : Scope) (cl : List (Str × Addr)) (s : Shared) (S : List (Addr × Obj) → Prop) (P : Nat → Value → Prop)
    (Fin : List Int → List (Addr × Obj) → Prop) : Nat → Nat → List Int → List (Addr × Obj) → Prop
  | 0, _, ys, news => Fin ys news
  | k + 1, i, ys, news => ∀ v I oI C oC D oD m₂ h tk (E' : Value → Shared → Prop), P i v → NsObj oC m₂ → m₂ x = some v → Fr h₀ L h m → News h₀ L h ((I, oI) :: (C, oC) :: (D, oD) :: news) → Off3 I C D news → ((@Ne Nat I C) ∧ (@Ne Nat I D) ∧ (@Ne Nat C D)) →
      wpAny (model prog w) A (eval elt (compEnvC scope cl C env)) (CompEnd h₀ L m { s with heap := h, toks := tk } I oI C oC D oD S (fun y news' => ∃ a t, y = .int a t ∧ CompRestS prog w A h₀ L m env elt x scope cl s S P Fin k (i + 1) (ys ++ [a]) news')) E' { s with heap := h, toks := tk }
section
variable {prog : Program} {w : World} {A : Around} {E : Value → Shared → Prop} {s : Shared} {h₀ : Heap} {L : Addr} {m : Str → Option Value} {env : Env}
theorem block_S {elt iter : Expr} {x : Str} {px : Pos} {scope : Scope} {cl : List (Str × Addr)} {pos : Pos} {s₂ : Shared} {I : Addr} {fp : List Addr} {n : Nat} {P : Nat → Value → Prop} {St : Nat → Heap → Prop} {S : List (Addr × Obj) → Prop} {news : List (Addr × Obj)}
    {Fin : List Int → List (Addr × Obj) → Prop} {RR : Value → Addr → Result → Shared → Prop}
    (W : Walks prog w A I fp [I] n P St) (hsz : n + 1 < scanBound) (hIo : ∀ i h, St i h → ∃ o, h.get? I = some o)
    (hSt : ∀ i h h' o nw, St i h → h.get? I = some o → h'.get? I = some o → (∀ b o, h₀.get? b = some o → h'.get? b = some o) → News h₀ L h' nw → S nw → St i h')
    (hcell : ∀ y ∈ scope.names, y.2 ≠ .cell) (hkind : scope.kind = .function) (hx : scope.names.lookup x = some .local) (hst : St 0 s₂.heap) (hfp : ∀ b ∈ fp, b < s₂.heap.objs.size)
    (F : Fr h₀ L s₂.heap m) (N : News h₀ L s₂.heap news) (hIL : L ≠ I) (hI₀ : h₀.get? I = none) (off : ∀ p ∈ news, p.1 ≠ I) (hS : S news)
    (R : CompRestS prog w A h₀ L m env elt x scope cl s₂ S P Fin n 0 [] news)
    (hRR : ∀ D C oD h tk m' ys news', Fr h₀ L h m → News h₀ L h ((D, oD) :: news') → SetKeys prog w ys oD → Off1 D news' → h.Ns C m' → h₀.get? C = none → h₀.get? D = none → C ≠ L → D ≠ L → C ≠ D → (∀ p ∈ news', p.1 ≠ C) → Fin ys news' → RR (.ref D) C (.ok .next) { s₂ with heap := h, toks := tk }) :
    wpAny (model prog w) A (newSet (.type "set")) (fun acc s₃ => wpAny (model prog w) A (newFunctionEnv scope env.globals cl [] env.qual none .none (some env)) (fun cenv s₄ =>
      codeAny (model prog w) A (.compStart (.SetComp elt [⟨.Name x px, iter, [], 0⟩] scope pos) 0 (.ref I) acc { cenv with scope := relabel scope env }) (RR acc cenv.locals) s₄) E s₃) E s₂ := by
  refine wpAny_newSet_of (knd := PySem.intKind prog w) fun led _ => wpAny_newFunctionEnv hcell (by intro y hy; simp at hy) (fun h₁ hns₁ hsb₁ => ?_) hkind
  dsimp only at hns₁ hsb₁ ⊢
  generalize hO : ({ cls := .type "set", dict := none, data := .set #[] 0 (.fresh 0 0 led) } : Obj) = oS at hns₁ hsb₁ ⊢
  generalize hH2 : s₂.heap.push oS = H2 at hns₁ hsb₁ ⊢
  have hC : H2.objs.size = s₂.heap.objs.size + 1 := by rw [← hH2, Heap.size_push]
  have hDC : s₂.heap.objs.size ≠ H2.objs.size := by rw [hC]; exact Nat.ne_of_lt (Nat.lt_succ_self _)
  have below : ∀ b, b < s₂.heap.objs.size → b ≠ H2.objs.size ∧ b ≠ s₂.heap.objs.size := fun b hb => ⟨by rw [hC]; exact Nat.ne_of_lt (Nat.lt_succ_of_lt hb), Nat.ne_of_lt hb⟩
  have hDf : s₂.heap.objs.size ∉ fp := fun hm => Nat.lt_irrefl _ (hfp _ hm)
  have hCf : H2.objs.size ∉ fp := fun hm => by have := hfp _ hm; rw [hC] at this; exact Nat.lt_irrefl _ (Nat.lt_of_succ_lt this)
  have hIf : I ∈ fp := W.sub I (List.mem_singleton.mpr rfl)
  have hIlt : I < s₂.heap.objs.size := hfp I hIf
  have old : ∀ b o, s₂.heap.get? b = some o → h₁.get? b = some o := fun b o e => hsb₁.extBut b o (below b (Heap.lt_size e)).1 (Heap.get?_push_of_some _ (hH2 ▸ Heap.get?_push_of_some _ e))
  have hacc : h₁.get? s₂.heap.objs.size = some oS := hsb₁.extBut _ _ hDC (Heap.get?_push_of_some _ (hH2 ▸ Heap.get?_push_size _ (by rw [← hO]; rfl)))
  have hSacc : SetKeys prog w [] oS := hO ▸ setObjOf_fresh (knd := PySem.intKind prog w) led
  have hst₁ : St 0 h₁ := W.frame _ _ _ hst fun b _ o e => old b o e
  have fresh : ∀ a, s₂.heap.objs.size ≤ a → s₂.heap.get? a = none := fun a ha => by
    cases e : s₂.heap.get? a with
    | none => rfl
    | some o' => exact absurd (Heap.lt_size e) (Nat.not_lt.mpr ha)
  have fresh₀ : ∀ a, s₂.heap.objs.size ≤ a → h₀.get? a = none := fun a ha => by
    cases e : h₀.get? a with
    | none => rfl
    | some o' => have := F.keep a o' e; rw [fresh a ha] at this; cases this
  have hD₀ : h₀.get? s₂.heap.objs.size = none := fresh₀ _ (Nat.le_refl _)
  have hC₀ : h₀.get? H2.objs.size = none := fresh₀ _ (by rw [hC]; exact Nat.le_succ _)
  have hLlt : L < s₂.heap.objs.size := F.ns.lt
  have hDL : s₂.heap.objs.size ≠ L := Ne.symm (below L hLlt).2
  have hCL : H2.objs.size ≠ L := Ne.symm (below L hLlt).1
  have hCI : I ≠ H2.objs.size := (below I hIlt).1
  have hDI : I ≠ s₂.heap.objs.size := (below I hIlt).2
  have off₀ : Off3 I H2.objs.size s₂.heap.objs.size news := Off3.of fun p hp => ⟨off p hp, (below _ (Heap.lt_size (N p hp).1)).1, (below _ (Heap.lt_size (N p hp).1)).2⟩
  have loop : ∀ s₃ : Shared, s₃ = { s₂ with heap := h₁, toks := s₂.toks + ([] : List (Str × Value)).length } →
      codeAny (model prog w) A (.compLoop (.SetComp elt [⟨.Name x px, iter, [], 0⟩] scope pos) 0 (.ref I) (.ref s₂.heap.objs.size) (compEnvC scope cl H2.objs.size env))
        (RR (.ref s₂.heap.objs.size) H2.objs.size) s₃ := by
    rintro s₃ rfl
    refine codeAny_compLoop_set
      (fun k s' => ∃ h' tk i ys oD m' news', s' = { s₂ with heap := h', toks := tk } ∧ i ≤ n ∧ k = n + 1 - i ∧ ys.length = i ∧ SetKeys prog w ys oD ∧ St i h' ∧ Fr h₀ L h' m ∧ h'.Ns H2.objs.size m' ∧ News h₀ L h' ((s₂.heap.objs.size, oD) :: news') ∧
        Off3 I H2.objs.size s₂.heap.objs.size news' ∧ S news' ∧ CompRestS prog w A h₀ L m env elt x scope cl s₂ S P Fin (n - i) i ys news') ?_ (n + 1)
      ⟨h₁, _, 0, [], oS, _, news, rfl, Nat.zero_le _, rfl, rfl, hSacc, hst₁, F.keeps old, hns₁, fun p hp => ?_, off₀, hS, R⟩
    · rintro k s' ⟨h', tk, i, ys, oD, m', news', rfl, hi, rfl, hyl, hSD, hst', F', hn', N', off', hS', R'⟩
      by_cases hlt : i < n
      · obtain ⟨j, hj⟩ : ∃ j, n - i = j + 1 := ⟨n - i - 1, by omega⟩
        rw [hj] at R'
        refine W.item i _ _ _ hlt hst' fun v h₂ tk₂ hPv hst₂ hk₂ => ?_
        refine wpAny_assign_Name (wpAny_storeName_local (lookup_relabel_local hx) (hn'.at' fun o e => hk₂ _ o (by simpa using Ne.symm hCI) e) (fun h₃ hn₃ hs₃ => ?_) (by simp [compEnvC, relabel, hkind]))
        have hst₃ : St (i + 1) h₃ := W.frame _ _ _ hst₂ fun b hb o e => hs₃.extBut b o (fun q => hCf (by have q' : b = H2.objs.size := q; rw [← q']; exact hb)) e
        obtain ⟨oI, heI⟩ := hIo _ _ hst₃
        obtain ⟨oC, heC, hoC⟩ := ns_obj hn₃
        have F₃ : Fr h₀ L h₃ m := (fr_but F' hk₂ hIL hI₀).change hs₃ hCL hC₀
        have off3 := off'.mem
        have N₂ : News h₀ L h₂ ((s₂.heap.objs.size, oD) :: news') := news_but N' hk₂ fun p hp => by
          rcases List.mem_cons.mp hp with rfl | hp
          · exact Ne.symm hDI
          · exact (off3 p hp).1
        have N₃ : News h₀ L h₃ ((I, oI) :: (H2.objs.size, oC) :: (s₂.heap.objs.size, oD) :: news') := fun p hp => by
          rcases List.mem_cons.mp hp with rfl | hp
          · exact ⟨heI, Ne.symm hIL, hI₀⟩
          · rcases List.mem_cons.mp hp with rfl | hp
            · exact ⟨heC, hCL, hC₀⟩
            · have z := N₂ p hp
              refine ⟨hs₃.extBut _ _ ?_ z.1, z.2⟩
              rcases List.mem_cons.mp hp with rfl | hp
              · exact hDC
              · exact (off3 p hp).2.1
        refine wpAny_mono (R' v I oI H2.objs.size oC s₂.heap.objs.size oD _ h₃ _ _ hPv hoC (by simp) F₃ N₃ off' ⟨hCI, hDI, Ne.symm hDC⟩) (fun y s₄ h₄ => ?_) fun _ _ e => e
        obtain ⟨h₄, tk₄, news₄, rfl, F₄, N₄, off₄, hS₄, a, ta, rfl, R₄⟩ := h₄
        have zI := (N₄ (I, oI) List.mem_cons_self).1
        have zC := (N₄ (H2.objs.size, oC) (List.mem_cons_of_mem _ List.mem_cons_self)).1
        have zD := (N₄ (s₂.heap.objs.size, oD) (List.mem_cons_of_mem _ (List.mem_cons_of_mem _ List.mem_cons_self))).1
        have N₄' : News h₀ L h₄ news₄ := fun p hp => N₄ p (List.mem_cons_of_mem _ (List.mem_cons_of_mem _ (List.mem_cons_of_mem _ hp)))
        have hst₄ : St (i + 1) h₄ := hSt _ _ _ _ _ hst₃ heI zI F₄.keep N₄' hS₄
        have hle := setLen_le ys
        refine call_set_add (knd := PySem.intKind prog w) (intKind_is _ _ _ _) rfl (hSD.setOf zD (by omega)) (by omega) fun h₅ hs₅ hD₅ => ?_
        obtain ⟨oD', hD₅', hSD'⟩ := (setKeys_step hD₅).objOf
        have off4 := off₄.mem
        refine ⟨n + 1 - (i + 1), by omega, h₅, _, i + 1, ys ++ [a], oD', _, news₄, rfl, hlt, rfl, by rw [List.length_append, List.length_singleton, hyl], hSD', W.frame _ _ _ hst₄ fun b hb o e => hs₅.extBut b o (fun q => hDf (q ▸ hb)) e, F₄.change hs₅ hDL hD₀,
          (hoC.ns zC).sameBut hs₅ (Ne.symm hDC), fun p hp => ?_, off₄, hS₄, ?_⟩
        · rcases List.mem_cons.mp hp with rfl | hp
          · exact ⟨hD₅', hDL, hD₀⟩
          · exact ⟨hs₅.extBut _ _ (off4 p hp).2.2 (N₄' p hp).1, (N₄' p hp).2⟩
        · rw [show n - (i + 1) = j by omega]
          exact R₄
      · obtain rfl : i = n := Nat.le_antisymm hi (Nat.not_lt.mp hlt)
        rw [Nat.sub_self] at R'
        refine W.done _ _ _ hst' fun h₂ tk₂ hk₂ => ?_
        have off3 := off'.mem
        exact hRR _ _ _ h₂ tk₂ _ ys news' (fr_but F' hk₂ hIL hI₀) (news_but N' hk₂ fun p hp => by
          rcases List.mem_cons.mp hp with rfl | hp
          · exact Ne.symm hDI
          · exact (off3 p hp).1) hSD off'.one (hn'.at' fun o e => hk₂ _ o (by simpa using Ne.symm hCI) e) hC₀ hD₀ hCL hDL (Ne.symm hDC) (fun p hp => (off3 p hp).2.1) R'
    · rcases List.mem_cons.mp hp with rfl | hp
      · exact ⟨hacc, hDL, hD₀⟩
      · exact ⟨old _ _ (N p hp).1, (N p hp).2⟩
  exact codeAny_compStart_set (loop _ rfl) (W.self 0 _ _ _ hst₁ (loop _ rfl))
def CompSrcS (prog : Program) (w : World) (A : Around) (h₀ : Heap) (L : Addr) (m : Str → Option Value) (env : Env) (elt : Expr) (x : Str) (scope : Scope) (cl : List (Str × Addr)) (Q : Value → Shared → Prop) (xv : Value) (s₁ : Shared) : Prop :=
  ∃ ax its n news, xv = .ref ax ∧ A.handled = none ∧ Fr h₀ L s₁.heap m ∧ News h₀ L s₁.heap news ∧ (ax, ({ cls := .type "list", data := .seq its n } : Obj)) ∈ news ∧ its.size + 1 < scanBound ∧
    ∀ g, CompRestS prog w A h₀ L m env elt x scope cl { s₁ with heap := g } (SrcAt h₀ ax its) (fun i v => its[i]? = some v) (fun ys news' => ∀ D oD h tk, Fr h₀ L h m → News h₀ L h ((D, oD) :: news') → SetKeys prog w ys oD → Off1 D news' → Q (.ref D) { s₁ with heap := h, toks := tk }) its.size 0 [] news
theorem CompSrcS.ledger {elt : Expr} {x : Str} {scope : Scope} {cl : List (Str × Addr)} {Q : Value → Shared → Prop} {ax : Addr} {its : Array Value} {n : Nat} {news : List (Addr × Obj)} {s₁ : Shared}
    (hh : A.handled = none) (F : Fr h₀ L s₁.heap m) (N : News h₀ L s₁.heap news) (hm : (ax, ({ cls := .type "list", data := .seq its n } : Obj)) ∈ news) (hsz : its.size + 1 < scanBound)
    (h : ∀ g, CompRestS prog w A h₀ L m env elt x scope cl { s₁ with heap := g } (SrcAt h₀ ax its) (fun i v => its[i]? = some v) (fun ys news' => ∀ D oD h tk, Fr h₀ L h m → News h₀ L h ((D, oD) :: news') → SetKeys prog w ys oD → Off1 D news' → Q (.ref D) { s₁ with heap := h, toks := tk }) its.size 0 [] news) :
    CompSrcS prog w A h₀ L m env elt x scope cl Q (.ref ax) s₁ := ⟨ax, its, n, news, rfl, hh, F, N, hm, hsz, h⟩
theorem SetComp_S {elt iter : Expr} {x : Str} {px : Pos} {scope : Scope} {cl : List (Str × Addr)} {pos : Pos} {Q : Value → Shared → Prop} (F₀ : Fr h₀ L s.heap m)
    (hclos : closureFor scope env = pure cl) (hcell : ∀ y ∈ scope.names, y.2 ≠ .cell) (hkind : scope.kind = .function)
    (hnames : ∀ y ∈ scope.names, y.2 = .local → scope.names.lookup y.1 = some .local) (hx : scope.names.lookup x = some .local)
    (h : wpAny (model prog w) A (eval iter env) (CompSrcS prog w A h₀ L m env elt x scope cl Q) E s)
    (hs : ∀ x, foldedSetIterable iter env x = pure x := by intro _; rfl) :
    wpAny (model prog w) A (eval (.SetComp elt [⟨.Name x px, iter, [], 0⟩] scope pos) env) Q E s := by
  rw [arm_eval_SetComp]
  refine wpAny_comprehension_free (use := none) rfl hs hclos hkind hnames (wpAny_mono h (fun xv s₁ h₁ => ?_) fun _ _ e => e)
  obtain ⟨ax, its, k, news, rfl, hh, F, N, hm, hsz, R⟩ := h₁
  have S : SrcAt h₀ ax its news := .inr ⟨_, hm, rfl, _, rfl⟩
  have hl := S.list F.keep N
  have hlt : ax < s₁.heap.objs.size := by obtain ⟨_, e, _⟩ := hl; exact Heap.lt_size e
  refine wpAny_pyIter_list hl ?_
  have up : ∀ b o, s₁.heap.get? b = some o → (s₁.heap.push { cls := .type "list_iterator", data := .fields #[.ref ax, .int 0 0] }).get? b = some o := fun b o e => Heap.get?_push_of_some _ e
  refine block_S (Walks.list hh s₁.heap.objs.size ax (Nat.ne_of_lt hlt) its) hsz (fun i h st => by obtain ⟨o, e, _⟩ := st.1; exact ⟨o, e⟩) list_st hcell hkind hx ⟨⟨_, Heap.get?_push_size _ rfl, rfl, rfl⟩, hl.push _⟩ (fun b hb => ?_)
    (F.keeps up) (N.grown up) (Nat.ne_of_lt F.ns.lt) (next_is_new F) (fun p hp => Nat.ne_of_lt (Heap.lt_size (N p hp).1)) S (R _) ?_
  · show b < (s₁.heap.push _).objs.size
    rw [Heap.size_push]
    rcases List.mem_cons.mp hb with rfl | hb
    · exact Nat.lt_succ_self _
    · rw [List.mem_singleton.mp hb]; exact Nat.lt_succ_of_lt hlt
  · intro D C oD h tk m' ys news' F' N' hSD o1 hn hC₀ hD₀ hCL hDL hCD offC fin
    refine ⟨m', hn, fun h'' hs'' => fin D oD h'' tk (F'.change hs'' hCL hC₀) (fun p hp => ?_) hSD o1⟩
    refine ⟨hs''.extBut _ _ ?_ (N' p hp).1, (N' p hp).2⟩
    rcases List.mem_cons.mp hp with rfl | hp
    · exact Ne.symm hCD
    · exact offC p hp
end
end Ruc
end
section
open PySem PySem.W PySem.Calls PySem.Spec PyProof.Rows
set_option maxHeartbeats 1000000
namespace Ruc
open LCg
abbrev pairObj (k v : Int) (t1 t2 : Tok) (nt : Nat) : Obj := { cls := .type "tuple", data := .seq #[.int k t1, .int v t2] nt }
inductive PairsIn (tl : List (Addr × Obj)) : List Value → List (Int × Int) → Prop
  | nil : PairsIn tl [] []
  | cons {t : Addr} {k v : Int} {t1 t2 : Tok} {nt : Nat} {vs : List Value} {ps : List (Int × Int)} : (t, pairObj k v t1 t2 nt) ∈ tl → PairsIn tl vs ps → PairsIn tl (.ref t :: vs) ((k, v) :: ps)
theorem PairsIn.length {tl : List (Addr × Obj)} : ∀ {vs : List Value} {ps : List (Int × Int)}, PairsIn tl vs ps → vs.length = ps.length
  | _, _, .nil => rfl
  | _, _, .cons _ r => by rw [List.length_cons, List.length_cons, r.length]
theorem PairsIn.mono {tl tl' : List (Addr × Obj)} (hs : ∀ p ∈ tl, p ∈ tl') : ∀ {vs : List Value} {ps : List (Int × Int)}, PairsIn tl vs ps → PairsIn tl' vs ps
  | _, _, .nil => .nil
  | _, _, .cons h r => .cons (hs _ h) (r.mono hs)
theorem PairsIn.append {tl : List (Addr × Obj)} : ∀ {vs vs' : List Value} {ps ps' : List (Int × Int)}, PairsIn tl vs ps → PairsIn tl vs' ps' → PairsIn tl (vs ++ vs') (ps ++ ps')
  | _, _, _, _, .nil, b => b
  | _, _, _, _, .cons h r, b => .cons h (r.append b)
theorem PairsIn.at {tl : List (Addr × Obj)} : ∀ {vs : List Value} {ps : List (Int × Int)}, PairsIn tl vs ps → ∀ (i : Nat) (x : Value), vs[i]? = some x → ∃ t k v t1 t2 nt, ps[i]? = some (k, v) ∧ x = .ref t ∧ (t, pairObj k v t1 t2 nt) ∈ tl
  | _, _, .nil, i, x, h => by simp at h
  | _, _, .cons hm _, 0, x, h => by simp at h; exact ⟨_, _, _, _, _, _, rfl, h.symm, hm⟩
  | _, _, .cons _ r, i + 1, x, h => by
    simp only [List.getElem?_cons_succ] at h ⊢
    exact r.at i x h
def PEl (news : List (Addr × Obj)) (r : Value) (b : Bool) (y : Value) (news' : List (Addr × Obj)) : Prop := news' = news ∧ y = r ∧ b = true
def PNo (news : List (Addr × Obj)) (b : Bool) (news' : List (Addr × Obj)) : Prop := news' = news ∧ b = false
def PInt (news : List (Addr × Obj)) (n : Int) (y : Value) (news' : List (Addr × Obj)) : Prop := news' = news ∧ ∃ t, y = .int n t
section
variable {prog : Program} {w : World} {A : Around} {h₀ : Heap} {L : Addr} {m : Str → Option Value} {env : Env} {ct elt : Expr} {x : Str} {scope : Scope} {cl : List (Str × Addr)} {s : Shared} {S : List (Addr × Obj) → Prop} {news tl : List (Addr × Obj)}
theorem pc_rest {Fin : List Value → List (Addr × Obj) → Prop} {vs : List Value} {ps : List (Int × Int)} (f : Int × Int → Bool) (hp : PairsIn tl vs ps)
    (turn : ∀ t k v t1 t2 nt I oI C oC D m₂ ys h tk (E' : Value → Shared → Prop), (t, pairObj k v t1 t2 nt) ∈ tl → LCg.NsObj oC m₂ → m₂ x = some (.ref t) → Fr h₀ L h m → News h₀ L h ((I, oI) :: (C, oC) :: (D, LCg.lst ys) :: news) → LCg.Off3 I C D news → ((@Ne Nat I C) ∧ (@Ne Nat I D) ∧ (@Ne Nat C D)) →
      wpAny (model prog w) A (isTrue ct (compEnvC scope cl C env) (eval ct (compEnvC scope cl C env))) (fun b s' => if b = true then wpAny (model prog w) A (eval elt (compEnvC scope cl C env)) (LCg.CompEnd h₀ L m { s with heap := h, toks := tk } I oI C oC D (LCg.lst ys) S (fun y news' => PEl news (.ref t) (f (k, v)) y news')) E' s'
        else LCg.CompEnd h₀ L m { s with heap := h, toks := tk } I oI C oC D (LCg.lst ys) S (fun _ news' => PNo news (f (k, v)) news') Value.none s') E' { s with heap := h, toks := tk })
    (fin : ∀ ys, PairsIn tl ys (ps.filter f) → Fin ys news) : LCt.CompRestT prog w A h₀ L m env ct elt x scope cl s S (fun i v => vs.toArray[i]? = some v) Fin vs.toArray.size 0 [] news := by
  have key : ∀ (j i : Nat) (ys : List Value), i + j = vs.length → PairsIn tl ys ((ps.take i).filter f) → LCt.CompRestT prog w A h₀ L m env ct elt x scope cl s S (fun i v => vs.toArray[i]? = some v) Fin j i ys news := by
    intro j
    induction j with
    | zero =>
      intro i ys hi hy
      have e : i = ps.length := by rw [← hp.length]; omega
      subst e
      rw [List.take_length] at hy
      exact LCt.CompRestT.zero (fin ys hy)
    | succ j ih =>
      intro i ys hi hy
      refine LCt.CompRestT.succ ?_
      intro v I oI C oC D m₂ h tk E' hv hC hx F N off ne
      obtain ⟨t, k, v0, t1, t2, nt, hk, rfl, hm⟩ := hp.at i v (by simpa using hv)
      have hs : (ps.take (i + 1)).filter f = (ps.take i).filter f ++ [(k, v0)].filter f := by
        rw [List.take_add_one, hk]; simp
      refine wpAny_mono (turn t k v0 t1 t2 nt I oI C oC D m₂ ys h tk E' hm hC hx F N off ne) (fun b s₂ hq => ?_) fun _ _ e => e
      cases b with
      | true =>
        simp only [if_true] at hq ⊢
        refine wpAny_mono hq (fun y s₃ hr => ?_) fun _ _ e => e
        obtain ⟨h', tk', nw, e, F', N', off', hS, hn, rfl, hb⟩ := hr
        rw [hn] at N' off' hS
        refine ⟨h', tk', news, e, F', N', off', hS, ?_⟩
        refine ih (i + 1) _ (by omega) ?_
        rw [hs]
        simp only [List.filter_cons, hb, if_true, List.filter_nil]
        exact hy.append (.cons hm .nil)
      | false =>
        simp only [Bool.false_eq_true, if_false] at hq ⊢
        obtain ⟨h', tk', nw, e, F', N', off', hS, hn, hb⟩ := hq
        rw [hn] at N' off' hS
        refine ⟨h', tk', news, e, F', N', off', hS, ih (i + 1) _ (by omega) ?_⟩
        rw [hs]
        simp only [List.filter_cons, hb, Bool.false_eq_true, if_false, List.filter_nil, List.append_nil]
        exact hy
  rw [List.size_toArray]
  exact key _ 0 [] (by omega) .nil
theorem pm_rest {Fin : List Value → List (Addr × Obj) → Prop} {vs : List Value} {ps : List (Int × Int)} (hp : PairsIn tl vs ps)
    (turn : ∀ t k v t1 t2 nt I oI C oC D m₂ ys h tk (E' : Value → Shared → Prop), (t, pairObj k v t1 t2 nt) ∈ tl → LCg.NsObj oC m₂ → m₂ x = some (.ref t) → Fr h₀ L h m → News h₀ L h ((I, oI) :: (C, oC) :: (D, LCg.lst ys) :: news) → LCg.Off3 I C D news → ((@Ne Nat I C) ∧ (@Ne Nat I D) ∧ (@Ne Nat C D)) →
      wpAny (model prog w) A (eval elt (compEnvC scope cl C env)) (LCg.CompEnd h₀ L m { s with heap := h, toks := tk } I oI C oC D (LCg.lst ys) S (fun y news' => PInt news v y news')) E' { s with heap := h, toks := tk })
    (fin : ∀ ys, IntsAre ys (ps.map (·.2)) → Fin ys news) : LCg.CompRest prog w A h₀ L m env elt x scope cl s S (fun i v => vs.toArray[i]? = some v) Fin vs.toArray.size 0 [] news := by
  have key : ∀ (j i : Nat) (ys : List Value), i + j = vs.length → IntsAre ys ((ps.take i).map (·.2)) → LCg.CompRest prog w A h₀ L m env elt x scope cl s S (fun i v => vs.toArray[i]? = some v) Fin j i ys news := by
    intro j
    induction j with
    | zero =>
      intro i ys hi hy
      have e : i = ps.length := by rw [← hp.length]; omega
      subst e
      rw [List.take_length] at hy
      exact LCg.CompRest.zero (fin ys hy)
    | succ j ih =>
      intro i ys hi hy
      refine LCg.CompRest.succ ?_
      intro v I oI C oC D m₂ h tk E' hv hC hx F N off ne
      obtain ⟨t, k, v0, t1, t2, nt, hk, rfl, hm⟩ := hp.at i v (by simpa using hv)
      have hs : (ps.take (i + 1)).map (·.2) = (ps.take i).map (·.2) ++ [v0] := by
        rw [List.take_add_one, hk]; simp
      refine wpAny_mono (turn t k v0 t1 t2 nt I oI C oC D m₂ ys h tk E' hm hC hx F N off ne) (fun y s₃ hr => ?_) fun _ _ e => e
      obtain ⟨h', tk', nw, e, F', N', off', hS, hn, t', rfl⟩ := hr
      rw [hn] at N' off' hS
      refine ⟨h', tk', news, e, F', N', off', hS, ?_⟩
      refine ih (i + 1) _ (by omega) ?_
      rw [hs]
      exact IntsAre.append hy (.cons v0 t' .nil)
  rw [List.size_toArray]
  exact key _ 0 [] (by omega) .nil
theorem ps_rest {Fin : List Int → List (Addr × Obj) → Prop} {vs : List Value} {ps : List (Int × Int)} (hp : PairsIn tl vs ps)
    (turn : ∀ t k v t1 t2 nt I oI C oC D oD m₂ h tk (E' : Value → Shared → Prop), (t, pairObj k v t1 t2 nt) ∈ tl → LCg.NsObj oC m₂ → m₂ x = some (.ref t) → Fr h₀ L h m → News h₀ L h ((I, oI) :: (C, oC) :: (D, oD) :: news) → LCg.Off3 I C D news → ((@Ne Nat I C) ∧ (@Ne Nat I D) ∧ (@Ne Nat C D)) →
      wpAny (model prog w) A (eval elt (compEnvC scope cl C env)) (LCg.CompEnd h₀ L m { s with heap := h, toks := tk } I oI C oC D oD S (fun y news' => PInt news k y news')) E' { s with heap := h, toks := tk })
    (fin : Fin (ps.map (·.1)) news) : CompRestS prog w A h₀ L m env elt x scope cl s S (fun i v => vs.toArray[i]? = some v) Fin vs.toArray.size 0 [] news := by
  have key : ∀ (j i : Nat) , i + j = vs.length → CompRestS prog w A h₀ L m env elt x scope cl s S (fun i v => vs.toArray[i]? = some v) Fin j i ((ps.take i).map (·.1)) news := by
    intro j
    induction j with
    | zero =>
      intro i hi
      have e : i = ps.length := by rw [← hp.length]; omega
      subst e
      rw [List.take_length]
      exact fin
    | succ j ih =>
      intro i hi
      intro v I oI C oC D oD m₂ h tk E' hv hC hx F N off ne
      obtain ⟨t, k, v0, t1, t2, nt, hk, rfl, hm⟩ := hp.at i v (by simpa using hv)
      have hs : (ps.take (i + 1)).map (·.1) = (ps.take i).map (·.1) ++ [k] := by
        rw [List.take_add_one, hk]; simp
      refine wpAny_mono (turn t k v0 t1 t2 nt I oI C oC D oD m₂ h tk E' hm hC hx F N off ne) (fun y s₃ hr => ?_) fun _ _ e => e
      obtain ⟨h', tk', nw, e, F', N', off', hS, hn, t', rfl⟩ := hr
      rw [hn] at N' off' hS
      refine ⟨h', tk', news, e, F', N', off', hS, k, t', rfl, ?_⟩
      rw [← hs]
      exact ih (i + 1) (by omega)
  rw [List.size_toArray]
  exact key _ 0 (by omega)
end
end Ruc
end
section
open PySem PySem.W PySem.Calls PySem.Spec PyProof.Rows
namespace Ruc
theorem flt_miss {c : List (Int × Int)} {k : Int} (h : kdfHas c k = false) : (c.filter fun q => q.1 == k) = [] ∧ (c.filter fun q => q.1 != k) = c := by
  have h' : ∀ q ∈ c, q.1 ≠ k := by
    intro q hq e
    have := List.any_eq_false.mp h q hq
    simp [e] at this
  exact ⟨List.filter_eq_nil_iff.mpr fun q hq => by simpa using h' q hq, List.filter_eq_self.mpr fun q hq => by simpa using h' q hq⟩
theorem del_flt (c : List (Int × Int)) (k : Int) : kdyDel c k = c.filter fun q => q.1 != k := by
  unfold kdyDel
  have : (fun q : Int × Int => !decide (q.1 = k)) = fun q => q.1 != k := by
    funext q
    by_cases h : q.1 = k <;> simp [h]
  rw [this]
theorem del_has (c : List (Int × Int)) (k : Int) : kdfHas (kdyDel c k) k = false := by
  unfold kdfHas kdyDel
  rw [List.any_eq_false]
  intro q hq
  have := (List.mem_filter.mp hq).2
  simpa using this
theorem put_new {c : List (Int × Int)} {k v : Int} (h : kdfHas c k = false) : kdfPut c k v = c ++ [(k, v)] := by
  unfold kdfPut
  unfold kdfHas at h
  rw [h]; simp
theorem put_del (c : List (Int × Int)) (k v : Int) : kdfPut (kdyDel c k) k v = (c.filter fun q => q.1 != k) ++ [(k, v)] := by
  rw [put_new (del_has c k), del_flt]
theorem flt_hit : ∀ {c : List (Int × Int)} {k : Int}, (c.map (·.1)).Nodup → kdfHas c k = true → (c.filter fun q => q.1 == k) = [(k, kdfLook c k 0)]
  | [], k, _, h => by simp [kdfHas] at h
  | q :: r, k, nd, h => by
    rw [List.map_cons, List.nodup_cons] at nd
    by_cases e : q.1 = k
    · have hm : kdfHas r k = false := by
        unfold kdfHas
        rw [List.any_eq_false]
        intro p hp hd
        have hd' : p.1 = k := by simpa using hd
        exact nd.1 (by rw [e, ← hd']; exact List.mem_map_of_mem hp)
      have : kdfLook (q :: r) k 0 = q.2 := by unfold kdfLook; simp [e]
      rw [this, List.filter_cons, (flt_miss hm).1]
      obtain ⟨a, b⟩ := q
      simp only at e
      subst e
      simp
    · have hh : kdfHas r k = true := by
        unfold kdfHas at h ⊢
        rw [List.any_cons] at h
        simpa [e] using h
      have hl : kdfLook (q :: r) k 0 = kdfLook r k 0 := by unfold kdfLook; simp [e]
      rw [hl, List.filter_cons, flt_hit nd.2 hh]
      simp [e]
theorem flt_hit_len {c : List (Int × Int)} {k : Int} (nd : (c.map (·.1)).Nodup) (h : kdfHas c k = true) : (c.filter fun q => q.1 != k).length + 1 = c.length := by
  have h1 := flt_hit nd h
  have h2 : ∀ c : List (Int × Int), (c.filter fun q => q.1 == k).length + (c.filter fun q => q.1 != k).length = c.length := by
    intro c
    induction c with
    | nil => rfl
    | cons q r ih =>
      rw [List.filter_cons, List.filter_cons]
      by_cases e : q.1 = k
      · simp only [e, beq_self_eq_true, bne_self_eq_false, if_true, Bool.false_eq_true, if_false, List.length_cons]; omega
      · have e1 : (q.1 == k) = false := by simpa using e
        have e2 : (q.1 != k) = true := by simpa using e
        simp only [e1, e2, if_true, Bool.false_eq_true, if_false, List.length_cons]; omega
  have h2 := h2 c
  rw [h1] at h2
  simp at h2
  omega
structure Good (c : List (Int × Int)) (size : Int) : Prop where
  nd : (c.map (·.1)).Nodup
  rng : ∀ p ∈ c, 0 ≤ p.1 ∧ p.1 < 5
  sz : (c.length : Int) ≤ size
theorem flt_nodup {c : List (Int × Int)} {k : Int} (nd : (c.map (·.1)).Nodup) : ((c.filter fun q => q.1 != k).map (·.1)).Nodup :=
  nd.sublist (List.Sublist.map _ List.filter_sublist)
theorem snoc_nodup {c : List (Int × Int)} {k v : Int} (nd : (c.map (·.1)).Nodup) (h : kdfHas c k = false) : ((c ++ [(k, v)]).map (·.1)).Nodup := by
  rw [List.map_append, List.nodup_append]
  refine ⟨nd, by simp, ?_⟩
  intro a ha b hb e
  simp at hb
  subst hb; subst e
  obtain ⟨q, hq, e⟩ := List.mem_map.mp ha
  have := List.any_eq_false.mp h q hq
  simp [e] at this
theorem Good.hit {c : List (Int × Int)} {size k v : Int} (g : Good c size) (h : kdfHas c k = true) (h0 : 0 ≤ k) (h5 : k < 5) : Good ((c.filter fun q => q.1 != k) ++ [(k, v)]) size := by
  have hl := flt_hit_len g.nd h
  refine ⟨?_, fun p hp => ?_, ?_⟩
  · refine snoc_nodup (flt_nodup g.nd) ?_
    rw [← del_flt]; exact del_has c k
  · rcases List.mem_append.mp hp with hp | hp
    · exact g.rng p (List.mem_filter.mp hp).1
    · simp at hp; subst hp; exact ⟨h0, h5⟩
  · have := g.sz
    rw [List.length_append, List.length_singleton]; omega
theorem Good.out {c : List (Int × Int)} {size k : Int} (g : Good c size) : Good (c.filter fun q => q.1 != k) size :=
  ⟨flt_nodup g.nd, fun p hp => g.rng p (List.mem_filter.mp hp).1, by have := g.sz; have := List.length_filter_le (fun q : Int × Int => q.1 != k) c; omega⟩
theorem Good.new {c : List (Int × Int)} {size k v : Int} (g : Good c size) (h : kdfHas c k = false) (h0 : 0 ≤ k) (h5 : k < 5) (hs : ((c ++ [(k, v)]).length : Int) ≤ size) : Good (c ++ [(k, v)]) size :=
  ⟨snoc_nodup g.nd h, fun p hp => by
    rcases List.mem_append.mp hp with hp | hp
    · exact g.rng p hp
    · simp at hp; subst hp; exact ⟨h0, h5⟩, hs⟩
theorem Good.full {c c2 : List (Int × Int)} {size k v k0 v0 : Int} (g : Good c size) (h : kdfHas c k = false) (h0 : 0 ≤ k) (h5 : k < 5) (e : c ++ [(k, v)] = (k0, v0) :: c2) : Good c2 size := by
  have nd := snoc_nodup (v := v) g.nd h
  rw [e, List.map_cons, List.nodup_cons] at nd
  refine ⟨nd.2, fun p hp => ?_, ?_⟩
  · have : p ∈ c ++ [(k, v)] := by rw [e]; exact .tail _ hp
    rcases List.mem_append.mp this with hp | hp
    · exact g.rng p hp
    · simp at hp; subst hp; exact ⟨h0, h5⟩
  · have := congrArg List.length e
    rw [List.length_append, List.length_singleton, List.length_cons] at this
    have := g.sz; omega
theorem full_del {c c2 : List (Int × Int)} {k v k0 v0 : Int} (g : (c.map (·.1)).Nodup) (h : kdfHas c k = false) (e : c ++ [(k, v)] = (k0, v0) :: c2) : kdyDel (c ++ [(k, v)]) k0 = c2 := by
  have nd := snoc_nodup (v := v) g h
  rw [e, List.map_cons, List.nodup_cons] at nd
  rw [e, del_flt, List.filter_cons]
  simp only [bne_self_eq_false, Bool.false_eq_true, if_false]
  refine List.filter_eq_self.mpr fun q hq => ?_
  have : q.1 ≠ k0 := fun e => nd.1 (by rw [← e]; exact List.mem_map.mpr ⟨q, hq, rfl⟩)
  simpa using this
theorem Good.nil {size : Int} (h : 0 ≤ size) : Good [] size := ⟨by simp, (fun p hp => by simp at hp), by simpa using h⟩
theorem Good.miss9 {c : List (Int × Int)} {size : Int} (g : Good c size) : kdfHas c 9 = false := by
  unfold kdfHas
  rw [List.any_eq_false]
  intro p hp hd
  have : p.1 = 9 := by simpa using hd
  have := g.rng p hp
  omega
end Ruc
end
section
open PySem PySem.W PySem.Calls PySem.Spec PyProof.Rows
set_option maxHeartbeats 1000000
namespace Ruc
section
variable {prog : Program} {w : World} {A : Around} {E : Value → Shared → Prop} {s : Shared} {h₀ : Heap} {L a b : Addr} {m : Str → Option Value} {news : List (Addr × Obj)} {g : Obj → List (Addr × Obj)}
theorem iseq_list : isSeqSlot (some (.builtin "list.__iadd__")) = true := by decide +kernel
theorem iadd_lists {as bs : List Value} {na nb : Nat} {Q : Value → Shared → Prop} (F : Fr h₀ L s.heap m) (N : News h₀ L s.heap news) (U : UpdF a (W.listOf as.toArray na) news g) (mb : (b, W.listOf bs.toArray nb) ∈ news)
    (hz : as.length + bs.length ≤ 1000) (h : ∀ h' n', Fr h₀ L h' m → News h₀ L h' (g (W.listOf (as ++ bs).toArray n')) → Q (.ref a) { s with heap := h' }) :
    wpAny (model prog w) A (inplaceOp .Add (.ref a) (.ref b)) Q E s := by
  obtain ⟨pre, post, rfl, hg, h1, h2⟩ := U.split
  have hm := N (a, W.listOf as.toArray na) (List.mem_append_right _ (.head _))
  have hmb := N _ mb
  have ha : s.TypeIs (.ref a) "list" := ⟨_, hm.1, rfl⟩
  have hb : s.TypeIs (.ref b) "list" := ⟨_, hmb.1, rfl⟩
  unfold inplaceOp
  refine wpAny_holding ?_
  have hfi : fillsInplaceSlot (.type "list") "add" (Operator.Add == .Add) = pure false := by
    unfold fillsInplaceSlot
    show (typeLookup (.type "list") (dunderI "add") >>= fun fi => pure (fi.isSome && !isSeqSlot fi)) = pure false
    rw [PySem.F.slot_list_iadd.lookup]
    show (pure (true && !isSeqSlot (some (.builtin "list.__iadd__"))) : Sem Bool) = pure false
    rw [iseq_list]; rfl
  refine wpAny_bind (wpAny_typeOf ha (wpAny_bind (wpAny_of_eq hfi ?_)))
  show wpAny _ A (if false = true then _ else _) Q E s
  rw [if_neg Bool.false_ne_true]
  refine wpAny_bind (wpAny_binaryOp1_none (nm := "add") ha hb noFill_list_add ?_)
  refine wpAny_bind (wpAny_of_eq (PySem.seqSlot_of PySem.F.slot_list_iadd.lookup iseq_list) ?_)
  refine wpAny_bind (wpAny_rule ?_)
  have hl := sizeLine_eq
  have hne : ¬(!as.toArray.isEmpty && Builtin.List.listTooLong (as.toArray.size + bs.toArray.size)) = true := by
    have : Builtin.List.listTooLong (as.toArray.size + bs.toArray.size) = false := by
      unfold Builtin.List.listTooLong
      simp only [List.size_toArray]
      simp
      omega
    rw [this]; simp
  refine call_meets PySem.F.slot_list_iadd ha PySem.F.entry_list_iadd (PySem.F.args_list_iadd_2 _ _) (AutoSeq1.list___iadd___list_list_0 a as.toArray na b bs.toArray nb hne (by rw [List.size_toArray]; omega) (by simp only [List.size_toArray]; omega)) ⟨hm.1, hmb.1, ?_⟩
  have hsb := Heap.SameBut.update s.heap a (Obj.mapSeq fun x => x ++ bs.toArray)
  have hget := Heap.get?_update_self (Obj.mapSeq fun x => x ++ bs.toArray) hm.1 rfl
  obtain ⟨n', e⟩ : ∃ n', (W.listOf as.toArray na).mapSeq (fun x => x ++ bs.toArray) = W.listOf (as.toArray ++ bs.toArray) n' := ⟨_, rfl⟩
  rw [List.append_toArray] at e
  rw [e] at hget
  exact h _ _ (F.change hsb hm.2.1 hm.2.2) (hg _ ▸ N.setIn h1 h2 hsb hget)
theorem add_listsN {as bs : List Value} {na nb : Nat} {Q : Value → Shared → Prop} (F : Fr h₀ L s.heap m) (N : News h₀ L s.heap news) (ma : (a, W.listOf as.toArray na) ∈ news) (mb : (b, W.listOf bs.toArray nb) ∈ news)
    (hz : as.length + bs.length ≤ 1000) (h : ∀ D h', Fr h₀ L h' m → News h₀ L h' ((D, W.listOf (as ++ bs).toArray 0) :: news) → (∀ p ∈ news, p.1 < D) → Q (.ref D) { s with heap := h' }) :
    wpAny (model prog w) A (binaryOp .Add (.ref a) (.ref b)) Q E s :=
  kmk_add_lit F N ⟨_, (N _ ma).1, rfl, _, rfl⟩ ⟨_, (N _ mb).1, rfl, _, rfl⟩ rfl h (by rw [sizeLine_eq]; simp only []; omega)
end
end Ruc
namespace Ruc
theorem canonF {h₀ h : Heap} {L DU P NU : Addr} {sil : Bool} {size : Int} {ts : Tok} {m : Str → Option Value} (F : Fr h₀ L h m) (e1 : m (Str.ofString "due") = some (.ref DU)) (e2 : m (Str.ofString "pairs") = some (.ref P)) (e3 : m (Str.ofString "silent") = some (.bool sil)) (e4 : m (Str.ofString "size") = some (.int size ts)) (e5 : m (Str.ofString "numbers") = some (.ref NU)) :
    Fr h₀ L h (fun y => if y = Str.ofString "due" then some (.ref DU) else if y = Str.ofString "pairs" then some (.ref P) else if y = Str.ofString "silent" then some (.bool sil) else if y = Str.ofString "size" then some (.int size ts) else if y = Str.ofString "numbers" then some (.ref NU) else m y) := by
  have e : (fun y => if y = Str.ofString "due" then some (.ref DU) else if y = Str.ofString "pairs" then some (.ref P) else if y = Str.ofString "silent" then some (.bool sil) else if y = Str.ofString "size" then some (.int size ts) else if y = Str.ofString "numbers" then some (.ref NU) else m y) = m := by
    funext y
    by_cases h1 : y = Str.ofString "due"
    · rw [if_pos h1, h1, e1]
    rw [if_neg h1]
    by_cases h2 : y = Str.ofString "pairs"
    · rw [if_pos h2, h2, e2]
    rw [if_neg h2]
    by_cases h3 : y = Str.ofString "silent"
    · rw [if_pos h3, h3, e3]
    rw [if_neg h3]
    by_cases h4 : y = Str.ofString "size"
    · rw [if_pos h4, h4, e4]
    rw [if_neg h4]
    by_cases h5 : y = Str.ofString "numbers"
    · rw [if_pos h5, h5, e5]
    rw [if_neg h5]
  rw [e]; exact F
theorem told_up {vsT : List Value} {sil : Bool} {told due v : List Int} (h : IntsAre vsT (if sil then told else told ++ v)) (e : told = if sil then [] else due) : IntsAre vsT (if sil then [] else due ++ v) := by
  subst e
  cases sil
  · exact h
  · exact h
theorem told_same {vsT : List Value} {sil : Bool} {told due : List Int} (h : IntsAre vsT told) (e : told = if sil then [] else due) : IntsAre vsT (if sil then [] else due) := e ▸ h
theorem apart5 {a b c d e p : Nat} (h : p ≠ a ∧ p ≠ b ∧ p ≠ c ∧ p ≠ d ∧ p ≠ e) {o : Obj} : ∀ q ∈ [((p : Addr), o)], q.1 ≠ (a : Addr) ∧ q.1 ≠ (b : Addr) ∧ q.1 ≠ (c : Addr) ∧ q.1 ≠ (d : Addr) ∧ q.1 ≠ (e : Addr) := by
  intro q hq
  rw [List.mem_singleton] at hq
  subst hq
  exact h
end Ruc
namespace Ruc
theorem len_snoc (l : List Value) (v : Value) : (l ++ [v]).length = l.length + 1 := by simp
theorem len_cons_snoc (a : Value) (l : List Value) (v : Value) : (a :: (l ++ [v])).length = l.length + 2 := by simp
theorem mem_of {h₀ h : Heap} {L : Addr} {news : List (Addr × Obj)} (N9 : News h₀ L h news) {p : Addr × Obj} (hm : p ∈ news) : p ∈ news := hm
abbrev elt {p : Addr × Obj} {l : List (Addr × Obj)} (_ : p ∈ l) : Addr × Obj := p
end Ruc
namespace Ruc
theorem slice_tail1 (v : Value) (vs : List Value) : (slicePick (v :: vs).toArray (some 1) none none).toList = vs := by
  have e : sliceBounds (some 1) none none (v :: vs).toArray.size = (((1 : Nat) : Int), ((vs.length + 1 : Nat) : Int), 1) := by
    unfold sliceBounds
    simp only [List.size_toArray, List.length_cons, Option.getD_none]
    simp
    omega
  rw [kmk_pick_nat _ e]
  simp
section
variable {prog : Program} {w : World} {A : Around} {E : Value → Shared → Prop} {s : Shared} {h₀ : Heap} {L l : Addr} {m : Str → Option Value} {news : List (Addr × Obj)}
theorem head_item {value slice : PySem.Expr} {v : Value} {vs : List Value} {n : Nat} {u : Tok} {Q : Value → Shared → Prop} (N : News h₀ L s.heap news) (hm : (l, W.listOf (v :: vs).toArray n) ∈ news) (h : Q v s)
    (hs : subscripted slice false (.ref l) (.int 0 u) = operate [.ref l, .int 0 u] (getItem (.ref l) (.int 0 u))) (hg : ∀ r, letTemporaryGo value (.ref l) r = pure ()) :
    wpAny (model prog w) A (subscriptTail value slice (.ref l) (.int 0 u)) Q E s :=
  item_listL (l := v :: vs) ⟨_, (N _ hm).1, rfl, _, rfl⟩ (Int.le_refl 0) (by decide) rfl h hs hg
theorem tail_slice {value slice : PySem.Expr} {v : Value} {vs : List Value} {n : Nat} {t : Tok} {Q : Value → Shared → Prop} (F : Fr h₀ L s.heap m) (N : News h₀ L s.heap news) (hm : (l, W.listOf (v :: vs).toArray n) ∈ news) (hz : (v :: vs).length ≤ 1000)
    (h : ∀ D h', Fr h₀ L h' m → News h₀ L h' ((D, W.listOf vs.toArray 0) :: news) → (∀ p ∈ news, p.1 < D) → Q (.ref D) { s with heap := h' })
    (hs : subscripted slice false (.ref l) (.ref s.heap.objs.size) = operate [.ref s.heap.objs.size, .ref l] (getItem (.ref l) (.ref s.heap.objs.size))) (ht : ∀ r, letTemporaryGo value (.ref l) r = pure ()) :
    wpAny (model prog w) A (subscriptTail value slice (.ref l) (.ref s.heap.objs.size)) Q E { s with heap := s.heap.push { cls := .type "slice", data := .fields #[.int 1 t, .none, .none] } } :=
  kmk_slice_lit F N ⟨_, (N _ hm).1, rfl, _, rfl⟩ (.int 1 t) .none (slice_tail1 v vs) h hs ht (by rw [List.size_toArray, sizeLine_eq]; omega)
end
end Ruc

namespace Ruc
theorem off1_mem {D : Addr} : ∀ {l : List (Addr × Obj)}, LCg.Off1 D l → ∀ p ∈ l, @Ne Nat p.1 D
  | [], _, _, h => nomatch h
  | _ :: _, x, p, h => by
    rcases List.mem_cons.mp h with rfl | h
    · exact x.1
    · exact off1_mem x.2 p h
theorem off3_mem {I C D : Addr} {l : List (Addr × Obj)} (x : LCg.Off3 I C D l) (p : Addr × Obj) (hp : p ∈ l) : @Ne Nat I p.1 ∧ @Ne Nat C p.1 ∧ @Ne Nat D p.1 :=
  have z := x.mem p hp
  ⟨Ne.symm z.1, Ne.symm z.2.1, Ne.symm z.2.2⟩
end Ruc
end
section
open PySem PySem.W PySem.Calls PySem.Spec PyProof.Rows
set_option maxHeartbeats 1000000
namespace Ruc
open LCg
inductive IntLists (gl : List (Addr × Obj)) : List Value → List Int → Prop
  | nil : IntLists gl [] []
  | cons {B : Addr} {v : Int} {t : Tok} {nB : Nat} {ys : List Value} {ns : List Int} : (B, W.listOf #[.int v t] nB) ∈ gl → IntLists gl ys ns → IntLists gl (.ref B :: ys) (v :: ns)
theorem IntLists.mono {gl gl' : List (Addr × Obj)} (hs : ∀ p ∈ gl, p ∈ gl') : ∀ {ys : List Value} {ns : List Int}, IntLists gl ys ns → IntLists gl' ys ns
  | _, _, .nil => .nil
  | _, _, .cons h r => .cons (hs _ h) (r.mono hs)
theorem IntLists.append {gl : List (Addr × Obj)} : ∀ {ys ys' : List Value} {ns ns' : List Int}, IntLists gl ys ns → IntLists gl ys' ns' → IntLists gl (ys ++ ys') (ns ++ ns')
  | _, _, _, _, .nil, b => b
  | _, _, _, _, .cons h r, b => .cons h (r.append b)
theorem IntLists.length {gl : List (Addr × Obj)} : ∀ {ys : List Value} {ns : List Int}, IntLists gl ys ns → ys.length = ns.length
  | _, _, .nil => rfl
  | _, _, .cons _ r => by rw [List.length_cons, List.length_cons, r.length]
abbrev rot (ps : List (Int × Int)) (i : Nat) : List (Int × Int) := ps.drop i ++ ps.take i
theorem rot_step {ps : List (Int × Int)} {i : Nat} {k v : Int} (nd : (ps.map (·.1)).Nodup) (h : ps[i]? = some (k, v)) :
    kdfHas (rot ps i) k = true ∧ kdfLook (rot ps i) k 0 = v ∧ kdfPut (kdyDel (rot ps i) k) k v = rot ps (i + 1) := by
  obtain ⟨hi, he⟩ := List.getElem?_eq_some_iff.mp h
  have hd : ps.drop i = (k, v) :: ps.drop (i + 1) := by rw [List.drop_eq_getElem_cons hi, he]
  have hr : rot ps i = (k, v) :: (ps.drop (i + 1) ++ ps.take i) := by rw [rot, hd]; rfl
  have hnd : ((rot ps i).map (·.1)).Nodup := by
    have hp : (rot ps i).Perm ps := by
      have := List.perm_append_comm (l₁ := ps.drop i) (l₂ := ps.take i)
      rw [List.take_append_drop] at this
      exact this
    exact (hp.map _).nodup_iff.mpr nd
  rw [hr, List.map_cons, List.nodup_cons] at hnd
  have hm : kdfHas (ps.drop (i + 1) ++ ps.take i) k = false := by
    unfold kdfHas
    rw [List.any_eq_false]
    intro p hp hd
    have hd' : p.1 = k := by simpa using hd
    exact hnd.1 (by rw [← hd']; exact List.mem_map.mpr ⟨p, hp, rfl⟩)
  refine ⟨?_, ?_, ?_⟩
  · rw [hr]; simp [kdfHas]
  · rw [hr]; simp [kdfLook]
  · rw [put_del, hr, List.filter_cons]
    simp only [bne_self_eq_false, Bool.false_eq_true, if_false]
    rw [(flt_miss hm).2]
    show (ps.drop (i + 1) ++ ps.take i) ++ [(k, v)] = ps.drop (i + 1) ++ ps.take (i + 1)
    rw [List.take_add_one, h, List.append_assoc]; rfl
theorem rot_end (ps : List (Int × Int)) : rot ps ps.length = ps := by simp [rot]
section
variable {prog : Program} {w : World} {A : Around} {h₀ : Heap} {L : Addr} {m : Str → Option Value} {env : Env} {elt : PySem.Expr} {x : Str} {scope : Scope} {cl : List (Str × Addr)} {s : Shared} {S : List (Addr × Obj) → Prop} {tl : List (Addr × Obj)}
def GotEnd (prog : Program) (w : World) (base : Obj → List (Addr × Obj) → List (Addr × Obj)) (gl : List (Addr × Obj)) (off : (Addr × Obj) → Prop) (v : Int) (c' : List (Int × Int)) (y : Value) (news' : List (Addr × Obj)) : Prop :=
  ∃ B t nB o' kvs', y = .ref B ∧ news' = base o' ((B, W.listOf #[.int v t] nB) :: gl) ∧ off (B, W.listOf #[.int v t] nB) ∧ o'.IsDictOf (PySem.intKind prog w) kvs' ∧ PyProof.V.FlatPairs PyData.int kvs' (kdfD c')
theorem gr_rest {Fin : List Value → List (Addr × Obj) → Prop} {vs : List Value} {ps : List (Int × Int)} (base : Obj → List (Addr × Obj) → List (Addr × Obj)) (off : (Addr × Obj) → Prop) (hp : PairsIn tl vs ps) (nd : (ps.map (·.1)).Nodup)
    {o : Obj} {kvs : List (Int × Value)} (hd : o.IsDictOf (PySem.intKind prog w) kvs) (hf : PyProof.V.FlatPairs PyData.int kvs (kdfD ps))
    (turn : ∀ t k v t1 t2 nt I oI C oC D m₂ ys h tk (E' : Value → Shared → Prop) o kvs c gl, (t, pairObj k v t1 t2 nt) ∈ tl → LCg.NsObj oC m₂ → m₂ x = some (.ref t) → Fr h₀ L h m → News h₀ L h ((I, oI) :: (C, oC) :: (D, LCg.lst ys) :: base o gl) → LCg.Off3 I C D (base o gl) → ((@Ne Nat I C) ∧ (@Ne Nat I D) ∧ (@Ne Nat C D)) →
      o.IsDictOf (PySem.intKind prog w) kvs → PyProof.V.FlatPairs PyData.int kvs (kdfD c) → c.length = ps.length → kdfHas c k = true → kdfLook c k 0 = v → (∀ p ∈ gl, off p) →
      wpAny (model prog w) A (eval elt (compEnvC scope cl C env)) (LCg.CompEnd h₀ L m { s with heap := h, toks := tk } I oI C oC D (LCg.lst ys) S (fun y news' => GotEnd prog w base gl off v (kdfPut (kdyDel c k) k v) y news')) E' { s with heap := h, toks := tk })
    (fin : ∀ ys gl o kvs, IntLists gl ys (ps.map (·.2)) → (∀ p ∈ gl, off p) → o.IsDictOf (PySem.intKind prog w) kvs → PyProof.V.FlatPairs PyData.int kvs (kdfD ps) → Fin ys (base o gl)) :
    LCg.CompRest prog w A h₀ L m env elt x scope cl s S (fun i v => vs.toArray[i]? = some v) Fin vs.toArray.size 0 [] (base o []) := by
  have key : ∀ (j i : Nat) (ys : List Value) (gl : List (Addr × Obj)) (o : Obj) (kvs : List (Int × Value)), i + j = vs.length → IntLists gl ys ((ps.take i).map (·.2)) → (∀ p ∈ gl, off p) → o.IsDictOf (PySem.intKind prog w) kvs → PyProof.V.FlatPairs PyData.int kvs (kdfD (rot ps i)) →
      LCg.CompRest prog w A h₀ L m env elt x scope cl s S (fun i v => vs.toArray[i]? = some v) Fin j i ys (base o gl) := by
    intro j
    induction j with
    | zero =>
      intro i ys gl o kvs hi hy ho hd hf
      have e : i = ps.length := by rw [← hp.length]; omega
      subst e
      rw [List.take_length] at hy
      rw [rot_end] at hf
      exact LCg.CompRest.zero (fin ys gl o kvs hy ho hd hf)
    | succ j ih =>
      intro i ys gl o kvs hi hy ho hd hf
      refine LCg.CompRest.succ ?_
      intro v I oI C oC D m₂ h tk E' hv hC hx F N off3 ne
      obtain ⟨t, k, v0, t1, t2, nt, hk, rfl, hm⟩ := hp.at i v (by simpa using hv)
      obtain ⟨r1, r2, r3⟩ := rot_step nd hk
      have hs : (ps.take (i + 1)).map (·.2) = (ps.take i).map (·.2) ++ [v0] := by
        rw [List.take_add_one, hk]; simp
      have hl : (rot ps i).length = ps.length := by simp [rot]; have := (List.getElem?_eq_some_iff.mp hk).1; omega
      refine wpAny_mono (turn t k v0 t1 t2 nt I oI C oC D m₂ ys h tk E' o kvs (rot ps i) gl hm hC hx F N off3 ne hd hf hl r1 r2 ho) (fun y s₃ hr => ?_) fun _ _ e => e
      obtain ⟨h', tk', nw, e, F', N', off', hS, B, t', nB, o', kvs', rfl, hn, hob, hd', hf'⟩ := hr
      subst hn
      refine ⟨h', tk', _, e, F', N', off', hS, ?_⟩
      rw [r3] at hf'
      refine ih (i + 1) _ _ o' kvs' (by omega) ?_ (fun p hp => ?_) hd' hf'
      · rw [hs]
        exact (hy.mono fun p hp => .tail _ hp).append (.cons (.head _) .nil)
      · rcases List.mem_cons.mp hp with rfl | hp
        · exact hob
        · exact ho p hp
  rw [List.size_toArray]
  exact key _ 0 [] [] o kvs (by omega) .nil (fun p hp => nomatch hp) hd (by simpa [rot] using hf)
def LstEnd (base : List (Addr × Obj) → List (Addr × Obj)) (off : (Addr × Obj) → Prop) (gl : List (Addr × Obj)) (v : Int) (y : Value) (news' : List (Addr × Obj)) : Prop :=
  ∃ B t nB, y = .ref B ∧ news' = base ((B, W.listOf #[.int v t] nB) :: gl) ∧ off (B, W.listOf #[.int v t] nB)
theorem lr_rest {Fin : List Value → List (Addr × Obj) → Prop} {vs : List Value} {ns : List Int} (base : List (Addr × Obj) → List (Addr × Obj)) (off : (Addr × Obj) → Prop) (hi0 : IntsAre vs ns)
    (turn : ∀ v t I oI C oC D m₂ ys h tk (E' : Value → Shared → Prop) gl, LCg.NsObj oC m₂ → m₂ x = some (.int v t) → Fr h₀ L h m → News h₀ L h ((I, oI) :: (C, oC) :: (D, LCg.lst ys) :: base gl) → LCg.Off3 I C D (base gl) → ((@Ne Nat I C) ∧ (@Ne Nat I D) ∧ (@Ne Nat C D)) →
      wpAny (model prog w) A (eval elt (compEnvC scope cl C env)) (LCg.CompEnd h₀ L m { s with heap := h, toks := tk } I oI C oC D (LCg.lst ys) S (fun y news' => LstEnd base off gl v y news')) E' { s with heap := h, toks := tk })
    (fin : ∀ ys gl, IntLists gl ys ns → (∀ p ∈ gl, off p) → Fin ys (base gl)) :
    LCg.CompRest prog w A h₀ L m env elt x scope cl s S (fun i v => vs.toArray[i]? = some v) Fin vs.toArray.size 0 [] (base []) := by
  have key : ∀ (j i : Nat) (ys : List Value) (gl : List (Addr × Obj)), i + j = vs.length → IntLists gl ys (ns.take i) → (∀ p ∈ gl, off p) →
      LCg.CompRest prog w A h₀ L m env elt x scope cl s S (fun i v => vs.toArray[i]? = some v) Fin j i ys (base gl) := by
    intro j
    induction j with
    | zero =>
      intro i ys gl hi hy ho
      have e : i = ns.length := by rw [← hi0.length]; omega
      subst e
      rw [List.take_length] at hy
      exact LCg.CompRest.zero (fin ys gl hy ho)
    | succ j ih =>
      intro i ys gl hi hy ho
      refine LCg.CompRest.succ ?_
      intro v I oI C oC D m₂ h tk E' hv hC hx F N off3 ne
      obtain ⟨k, t, rfl, hk⟩ := IntsAre.at hi0 i v (by simpa using hv)
      have hs : ns.take (i + 1) = ns.take i ++ [k] := by
        rw [List.take_add_one, hk]; simp
      refine wpAny_mono (turn k t I oI C oC D m₂ ys h tk E' gl hC hx F N off3 ne) (fun y s₃ hr => ?_) fun _ _ e => e
      obtain ⟨h', tk', nw, e, F', N', off', hS, B, t', nB, rfl, hn, hob⟩ := hr
      subst hn
      refine ⟨h', tk', _, e, F', N', off', hS, ?_⟩
      refine ih (i + 1) _ _ (by omega) ?_ (fun p hp => ?_)
      · rw [hs]
        exact (hy.mono fun p hp => .tail _ hp).append (.cons (.head _) .nil)
      · rcases List.mem_cons.mp hp with rfl | hp
        · exact hob
        · exact ho p hp
  rw [List.size_toArray]
  exact key _ 0 [] [] (by omega) .nil (fun p hp => nomatch hp)
end
/-- lists of one-int lists -/
abbrev lol (ns : List Int) : List PyData := ns.map fun n => .list [.int n]
theorem lol_reads {h₀ h : Heap} {L : Addr} {news gl : List (Addr × Obj)} (N : News h₀ L h news) (hs : ∀ p ∈ gl, p ∈ news) : ∀ {ys : List Value} {ns : List Int}, IntLists gl ys ns → ∃ as, ReadsAll h ys (lol ns) as
  | _, _, .nil => ⟨_, .nil⟩
  | _, _, .cons hm r => by
    obtain ⟨as, hr⟩ := lol_reads N hs r
    have e := (N _ (hs _ hm)).1
    exact ⟨_, .cons (reads_of_ints (vs := [_]) ⟨_, e, rfl, _, rfl⟩ (.cons _ _ .nil)) hr⟩
end Ruc

namespace Ruc
open PyProof.V PySem.SeqAt
theorem lol_lay : ∀ ns : List Int, PyData.canLayAll0 (lol ns) = true
  | [] => by simp [PyData.canLayAll0]
  | n :: r => by simp [PyData.canLayAll0, PyData.canLay0, lol_lay r]
theorem lol_depth : ∀ ns : List Int, PyData.depthAll (lol ns) ≤ 2
  | [] => by simp [PyData.depthAll]
  | n :: r => by
    have := lol_depth r
    unfold lol at this
    simp only [lol, List.map_cons, PyData.depthAll, PyData.depth]
    omega
theorem lol_shaped (ns : List Int) : shaped (.list (lol ns)) = true := by
  have h1 := lol_depth ns
  have h2 : PyData.depth (.list (lol ns)) ≤ 64 := by simp only [PyData.depth]; omega
  show (PyData.canLay0 (.list (lol ns)) && decide (PyData.depth (.list (lol ns)) ≤ 64)) = true
  rw [Bool.and_eq_true]
  exact ⟨by simp only [PyData.canLay0]; exact lol_lay ns, decide_eq_true h2⟩
theorem lol_mix : ∀ ns : List Int, noMixAll (lol ns) (lol ns) = true
  | [] => by simp [noMixAll]
  | n :: r => by simp [noMixAll, noMix, lol_mix r]
theorem lol_same : ∀ ns : List Int, PySem.Spec.sameAll (lol ns) (lol ns) = true
  | [] => by simp [PySem.Spec.sameAll]
  | n :: r => by simp [PySem.Spec.sameAll, PySem.Spec.same, lol_same r]
theorem ne_lol {prog : Program} {w : World} {A : Around} {E : Value → Shared → Prop} {s : Shared} {h₀ : Heap} {L : Addr} {news gl gl' : List (Addr × Obj)} {a b : Addr} {as bs : List Value} {na nb : Nat} {ns : List Int} {Q : Value → Shared → Prop}
    (N : News h₀ L s.heap news) (ma : (a, W.listOf as.toArray na) ∈ news) (mb : (b, W.listOf bs.toArray nb) ∈ news) (ia : IntLists gl as ns) (ib : IntLists gl' bs ns) (sa : ∀ p ∈ gl, p ∈ news) (sb : ∀ p ∈ gl', p ∈ news) (hu : A.units + 64 < cLine) (h : Q (.bool false) s) :
    wpAny (model prog w) A (compareOp .NotEq (.ref a) (.ref b)) Q E s := by
  obtain ⟨ra, ha⟩ := lol_reads N sa ia
  obtain ⟨rb, hb⟩ := lol_reads N sb ib
  exact ne_dataH_same (.list (N _ ma).1 rfl rfl (by simpa using ha)) (.list (N _ mb).1 rfl rfl (by simpa using hb)) (lol_shaped ns) (lol_shaped ns) hu (by simp only [noMix]; exact lol_mix ns) (by simp only [PySem.Spec.same]; rw [lol_same]; exact h)
end Ruc
end
section
open PySem PySem.W PySem.Calls PySem.Spec PyProof.Rows
set_option maxHeartbeats 1000000
namespace Ruc
theorem fill8 : PySem.Challenge.rw_ew0039_01.row.prog = PySem.Challenge.rw_ew0039_01.row.prog ∧ hd.heap_39 = hd.heap_39 := by k_fill; exact ⟨rfl, rfl⟩
local macro_rules | `(tactic| walk_at "getMethod ref") => `(tactic| (k_here; k_dflt (refine' getMethod_tab_any (knd := PySem.intKind _ _) (enc := PyData.int) ?k1 ?k2 ?_; (case k1 => exact rfl); (case k2 => k_tabat); k_whole)))
local macro_rules | `(tactic| k_room) => `(tactic| (simp only [depth_under_make, depth_under_kw, depth_in1, depth_deeper, depth_caller, Ar]; omega))
local macro_rules | `(tactic| k_mem) => `(tactic| assumption)
local macro_rules | `(tactic| k_all) => `(tactic| assumption)
local macro_rules | `(tactic| walk_at "call builtin:dict.pop") => `(tactic| (k_here; k_dflt (refine pop_miss (by rfl) (by k_tabat) (by assumption) ?_); intro h' e' x'))
local macro_rules | `(tactic| walk_at "leaving ref") => `(tactic| (k_here; (refine' leave_newS ?k1 ?k0 ?k2 ?k3 ?_; (case k0 => assumption); (case k2 => assumption); (case k1 => assumption); (case k3 => k_asm); k_whole; intro h' S' R' U'; (try dsimp only at S' R' U' ⊢))))
local macro_rules | `(tactic| walk_at "truthy ref") => `(tactic| (k_here; k_dflt (refine truthy_fn ⟨_, News.get (by k_asm) (by k_mem), rfl⟩ ?_)))
local macro_rules | `(tactic| walk_at "getMethod ref") => `(tactic| (k_here; (with_reducible show wpAny _ _ (getMethod (Value.ref _) (Str.ofString "dispose_func") _) _ _ _); k_dflt (refine' method_attr ?k1 ?k2 ?k3 ?k4 ?k5 ?_; (case k1 => k_in); (case k2 => k_inst); (case k3 => k_is); (case k4 => k_is); (case k5 => k_is); k_whole)))
local macro_rules | `(tactic| walk_at "callWith ref") => `(tactic| (k_here; k_dflt (refine' callWith_F ?k1 ?_; (case k1 => exact FnAt.of (by k_asm) (by k_mem)); k_whole)))
local macro_rules | `(tactic| walk_at "FnAt") => `(tactic| (k_dflt (exact FnAt.of (by k_asm) (by k_mem))))
local macro_rules | `(tactic| walk_at "call ref") => `(tactic| (k_here; (dsimp only [List.nil_append, List.cons_append]); k_dflt (refine' lam_call (n := 0) ?cx ?F ?N ?U ?m1 ?m2 ?oT ?m3 ?m4 ?oc ?vs ?sz ?_; (case cx => exact ⟨by assumption, by assumption, by assumption, rfl, rfl, by (first | (dsimp only [Ar]; omega) | (simp only [depth_deeper, depth_in1, Around.deeper_units, Around.in1_units, Ar]; omega)), by (first | (dsimp only [Ar]; omega) | (simp only [depth_deeper, depth_in1, Around.deeper_units, Around.in1_units, Ar]; omega))⟩); (case F => k_asm); (case N => k_asm); (case m3 => k_mem); (case m4 => k_mem); (case m2 => k_mem); (case oT => assumption); (case m1 => k_mem); (case oc => assumption); (case vs => assumption); (case sz => assumption); (case U => k_upd)); intro h' tk' F' N'))
local macro_rules | `(tactic| walk_at "call builtin:len") => `(tactic| (k_here; (with_reducible show wpAny _ _ (call (Value.builtin "len") [Value.ref _]) _ _ _); k_dflt (refine kdf_len (by k_tabat) (by omega) ?_)))
local macro_rules | `(tactic| walk_at "ruc enter") => `(tactic| (refine wpAny_call ?_; (refine' code_def ?B ?F ?X ?N ?T rfl ?f1 ?f2 ?k6 ?k7 ?k8 ?k9 ?kB ?_ ?c2 ?c3 ?c4 ?c5; (case B => assumption); (case F => assumption); (case X => assumption); (case N => assumption); (case T => assumption); (case f1 => assumption); (case f2 => assumption); (case k6 => k_is); (case k7 => k_is); (case k8 => k_room); (case k9 => exact BindsTo.of_eq rfl); (case c5 => decide); (case kB => exact locs rfl); (case c2 => exact rfl); (case c3 => exact rfl); (case c4 => exact rfl); k_whole; intro g' L' h' FG' F' N' B' X' T'; (try dsimp only); (try k_lift B'); (try k_fold))))
local macro_rules | `(tactic| walk_at "ruc enterS") => `(tactic| (refine wpAny_call ?_; (refine' enterS0 ?B ?F ?X ?N ?T rfl ?f1 ?f2 ?k6 ?k7 ?k8 ?k9 ?kB ?_ ?c2 ?c3 ?c4 ?c5; (case B => assumption); (case F => assumption); (case X => assumption); (case N => assumption); (case T => assumption); (case f1 => assumption); (case f2 => assumption); (case k6 => k_is); (case k7 => k_is); (case k8 => k_room); (case k9 => exact BindsTo.of_eq rfl); (case c5 => decide); (case kB => exact locs rfl); (case c2 => exact rfl); (case c3 => exact rfl); (case c4 => exact rfl); k_whole; intro g' L' h' FG' F' N' B' X' T' D'; (try dsimp only); (try k_lift B'); (try k_fold))))
local macro_rules | `(tactic| walk_at "noteFrame ref") => `(tactic| (k_here; (with_reducible rename Heap.NewExc _ _ _ _ => nxX); k_dflt (refine' caught_here (T' := "KeyError") nxX ?F ?N ?K ?XB ?TB ?D ?ex PyProof.Rows.Boot.«KeyError» ?hn kr_isExc_KeyError kr_notTuple_KeyError ?hs ?_; (case F => assumption); (case N => assumption); (case K => assumption); (case XB => assumption); (case TB => assumption); (case D => assumption); (case hs => kts_sub); (case ex => k_is); (case hn => decide); k_whole); intro h' g' T' F' N' K' X' P' D'; (try k_lift K'); (try k_sweep)))
local macro_rules | `(tactic| walk_at "delItem ref int") => `(tactic| (k_here; k_dflt (refine' del_own ?F ?X ?I ?hQ ?hS ?hF ?_; (case F => k_asm); (case X => k_asm); (case I => k_inst); (case hS => k_is); (case hF => k_is); (case hQ => k_is); k_whole)))
local macro_rules | `(tactic| walk_at "call type:list") => `(tactic| (k_here; (with_reducible show wpAny _ _ (call (Value.type "list") [Value.ref _]) _ _ _); k_dflt (refine' list_own ?F ?X ?N ?I ?hS ?hF ?_; (case F => k_asm); (case X => k_asm); (case N => k_asm); (case I => k_inst); (case hS => k_is); (case hF => k_is); k_whole); intro S' h' F' N'; (try k_sweep)))
theorem flat_keys {kvs : List (Int × Value)} {c : List (Int × Int)} (hf : PyProof.V.FlatPairs PyData.int kvs (kdfD c)) : kvs.map (·.1) = c.map (·.1) := by
  have key : ∀ {kvs : List (Int × Value)} {D : List (PyData × PyData)}, PyProof.V.FlatPairs PyData.int kvs D → ∀ c : List (Int × Int), D = kdfD c → kvs.map (·.1) = c.map (·.1) := by
    intro kvs D h
    induction h with
    | nil => intro c e; cases c with
      | nil => rfl
      | cons p c => cases e
    | cons hv hr ih => intro c e; cases c with
      | nil => cases e
      | cons p c =>
        simp only [kdfD, List.map_cons, List.cons.injEq, Prod.mk.injEq, PyData.int.injEq] at e
        simp only [List.map_cons]
        rw [ih c e.2, e.1.1]
  exact key hf c rfl
local macro_rules | `(tactic| walk_at "call type:set") => `(tactic| (k_here; (with_reducible show wpAny _ _ (call (Value.type "set") [Value.ref _]) _ _ _); k_dflt (refine set_keys_N (by k_asm) (by k_asm) (by rfl) (by k_mem) (by k_mem) (by k_asm) (by assumption) ?_); intro h' tk' S' so' F' N' l1 hSK; (try k_lt l1)))
section
variable {w : World} {A₀ : Around} {base h₀ : Heap} {outer : List Env} {e1 : Env} {L x dx d : Addr} {loose : List Str} {mean : ExcName → Option Value} {m mg mb : Str → Option Value} {D U n : Nat}
  {g : Option (List Code)} {s : Shared} {E : Value → Shared → Prop} {Q : Value → Shared → Prop} {mv dv : Value} {t1 t2 t3 : Tok} {nn : Nat} {o : Obj} {kvs : List (Int × Value)} {c : List (Int × Int)} {k : Int} {tk : Tok} {rest : List (Addr × Obj)}
theorem keys_spec (cx : Cx (n + 2) w A₀ base h₀ outer e1 L loose mean mg mb D U) (F : Fr h₀ L s.heap m)
    (N : News h₀ L s.heap ((d, o) :: (x, instObj 81 dx) :: (dx, selfDict w t1 t2 t3 mv dv d nn) :: rest))
    (hd1 : o.IsDictOf (PySem.intKind prg w) kvs) (hf : PyProof.V.FlatPairs PyData.int kvs (kdfD c)) (hc : c.length ≤ 100)
    (hlt : @LT.lt Nat _ x d ∧ @LT.lt Nat _ dx x) (lo : (d == sysModules) = false) (hoff : ∀ p ∈ rest, p.1 ≠ d)
    (h : ∀ S h' so tk', Fr h₀ L h' m → News h₀ L h' ((S, so) :: (d, o) :: (x, instObj 81 dx) :: (dx, selfDict w t1 t2 t3 mv dv d nn) :: rest) → @LT.lt Nat _ d S → AllLt S rest → SetKeys prg w (c.map (·.1)) so → Q (.ref S) { s with heap := h', toks := tk' }) :
    wpAny (model prg w) (Ar D U g e1 outer) (call (.ref 78) [.ref x]) Q E s := by
  obtain ⟨B, X, T, hf1, hk1, hD, hU⟩ := cx
  have hkl : kvs.length + 1 < scanBound := by rw [← hf.length, kdfD_length]; unfold scanBound; omega
  w_on
  w_strict walk_at "ruc enter"
  w_strict k_steps
  rename Fr h₀ _ _ _ => kF
  rename News h₀ _ _ _ => kN
  rename SetKeys _ _ _ _ => hK
  rename _ ∧ _ ∧ _ ∧ _ ∧ AllLt _ rest => l1
  rw [flat_keys hf] at hK
  refine h _ _ _ _ kF (fun p hp => ?_) l1.2.1 l1.2.2.2.2 hK
  rcases List.mem_cons.mp hp with rfl | hp
  · exact kN _ (.head _)
  · exact kN _ (.tail _ (.tail _ hp))
end
end Ruc
end
section
open PySem PySem.W PySem.Calls PySem.Spec PyProof.Rows
set_option maxHeartbeats 1000000
namespace Ruc
theorem fill9 : PySem.Challenge.rw_ew0039_01.row.prog = PySem.Challenge.rw_ew0039_01.row.prog ∧ hd.heap_39 = hd.heap_39 := by k_fill; exact ⟨rfl, rfl⟩
def Stop (p : Prop) : Prop := p
theorem stop_here {p : Prop} (h : Stop p) : p := h
abbrev lawEnv (L fa : Addr) : Env := envOfC (Str.ofString "law") lawScope L fa (.ref 110)
local macro_rules | `(tactic| k_room) => `(tactic| (simp only [depth_under_make, depth_under_kw, depth_in1, depth_deeper, depth_caller, Ar]; omega))
local macro_rules | `(tactic| k_mem) => `(tactic| assumption)
local macro_rules | `(tactic| k_all) => `(tactic| assumption)
local macro_rules | `(tactic| walk_at "ruc enter") => `(tactic| (refine wpAny_call ?_; (refine' code_def ?B ?F ?X ?N ?T rfl ?f1 ?f2 ?k6 ?k7 ?k8 ?k9 ?kB ?_ ?c2 ?c3 ?c4 ?c5; (case B => assumption); (case F => assumption); (case X => assumption); (case N => assumption); (case T => assumption); (case f1 => assumption); (case f2 => assumption); (case k6 => k_is); (case k7 => k_is); (case k8 => k_room); (case k9 => exact BindsTo.of_eq rfl); (case c5 => decide); (case kB => exact locs rfl); (case c2 => exact rfl); (case c3 => exact rfl); (case c4 => exact rfl); k_whole; intro g' L' h' FG' F' N' B' X' T'; (try dsimp only); (try k_lift B'); (try k_fold))))
local macro_rules | `(tactic| walk_at "exec Assign cons ListComp") => `(tactic| (refine stop_here ?_))
local macro_rules | `(tactic| walk_at "ruc compT") => `(tactic| ((show wpAny _ _ _ _ _ _); k_dflt ((refine' LCt.Assign_ListComp_T (F₀ := ?F) ?a1 ?a2 ?a3 ?a4 ?a5 ?a6 ?a7 ?a8 ?a9 ?_ ?a10); (case F => k_asm); (case a1 => rfl); (case a2 => with_unfolding_all rfl); (case a3 => with_unfolding_all rfl); (case a4 => decide); (case a5 => rfl); (case a6 => decide); (case a7 => rfl); (case a8 => rfl); (case a9 => rfl); (case a10 => intro _; rfl)); walk1; (refine' LCt.CompSrcT.ledger ?a1 ?a2 ?a3 ?a4 ?a5 ?_; (case a1 => rfl); (case a2 => k_asm); (case a3 => k_asm); (case a4 => k_mem); (case a5 => assumption); intro g')))
local macro_rules | `(tactic| walk_at "execs cons") => `(tactic| ((with_reducible show wpAny _ _ (execs (Stmt.If _ _ _ _ :: _) _) _ _ _); (refine stop_here ?_)))
def loopRest : List Stmt := loopBody.drop 4
abbrev Off (H L d tL DU I P : Nat) : Prop := H ≠ L + 1 + 1 ∧ H ≠ d ∧ H ≠ tL ∧ H ≠ DU ∧ H ≠ I ∧ H ≠ P
section
variable {w : World} {A₀ : Around} {h₀ : Heap} {L x dx d tL DU P NU I fa : Addr} {loose : List Str} {mean : ExcName → Option Value} {u mg mb : Str → Option Value} {D U n : Nat}
  {g : Option (List Code)} {s : Shared} {E : Value → Shared → Prop} {Q : Flow → Shared → Prop} {dv : Value} {t1 t2 t3 ts tp : Tok} {nn nd np nT nw : Nat} {o oT oK oC oI : Obj} {kvs : List (Int × Value)} {c : List (Int × Int)} {size pl : Int} {sil : Bool} {tail : List (Addr × Obj)}
  {dvs pvs vsT ws : List Value} {nums : List Int}
theorem turn_head (cx : Cx 10 w A₀ h₀ h₀ [] (lawEnv L fa) L loose mean mg mb D U)
    (F : Fr h₀ L s.heap (fun y => if y = Str.ofString "place" then some (.int pl tp) else if y = Str.ofString "due" then some (.ref DU) else if y = Str.ofString "pairs" then some (.ref P) else if y = Str.ofString "silent" then some (.bool sil) else if y = Str.ofString "size" then some (.int size ts) else if y = Str.ofString "numbers" then some (.ref NU) else u y))
    (N : News h₀ L s.heap ((I, oI) :: (DU, W.listOf dvs.toArray nd) :: (P, W.listOf pvs.toArray np) :: (d, o) :: (x, instObj 81 dx) :: (dx, selfDict w t1 t2 t3 (.int size ts) dv d nn) :: (tL, W.listOf vsT.toArray nT) :: (NU, W.listOf ws.toArray nw) :: (L + 1 + 1 + 1, oT) :: (L + 1 + 1, oK) :: (L + 1, oC) :: tail))
    (hI : IntsAre ws nums) (hnum : nums.length ≤ 40) (hpl : 0 ≤ pl) (hpl2 : pl + 1 < nums.length)
    (hord : @LT.lt Nat _ (L + 1 + 1 + 1) NU ∧ @LT.lt Nat _ NU tL ∧ @LT.lt Nat _ tL dx ∧ @LT.lt Nat _ dx x ∧ @LT.lt Nat _ x d ∧ @LT.lt Nat _ d DU ∧ @LT.lt Nat _ DU I ∧ @Ne Nat P (L + 1 + 1) ∧ @Ne Nat P d ∧ @Ne Nat P tL ∧ @Ne Nat P DU ∧ @Ne Nat P I)
    (hoffK : ∀ p ∈ tail, p.1 ≠ L + 1 + 1) (hp : PairsIn tail pvs c) (hpsz : pvs.toArray.size ≤ sizeLine) {vK : Option Value} (hoK : oK.data = .cell vK)
    (h : ∀ h' tk' H R hs rs oK' tk1 tk2, Fr h₀ L h' (fun y => if y = Str.ofString "rest" then some (.ref R) else if y = Str.ofString "held" then some (.ref H) else if y = Str.ofString "kind" then some (.int ((nums.getD pl.toNat 0).fmod 8) tk1) else if y = Str.ofString "place" then some (.int pl tp) else if y = Str.ofString "due" then some (.ref DU) else if y = Str.ofString "pairs" then some (.ref P) else if y = Str.ofString "silent" then some (.bool sil) else if y = Str.ofString "size" then some (.int size ts) else if y = Str.ofString "numbers" then some (.ref NU) else u y) →
      News h₀ L h' ((R, W.listOf rs.toArray rs.length) :: (H, W.listOf hs.toArray hs.length) :: (I, oI) :: (DU, W.listOf dvs.toArray nd) :: (P, W.listOf pvs.toArray np) :: (d, o) :: (x, instObj 81 dx) :: (dx, selfDict w t1 t2 t3 (.int size ts) dv d nn) :: (tL, W.listOf vsT.toArray nT) :: (NU, W.listOf ws.toArray nw) :: (L + 1 + 1 + 1, oT) :: (L + 1 + 1, oK') :: (L + 1, oC) :: tail) →
      PairsIn tail hs (c.filter fun q => q.1 == (nums.getD (pl + 1).toNat 0).fmod 5) → PairsIn tail rs (c.filter fun q => q.1 != (nums.getD (pl + 1).toNat 0).fmod 5) → oK'.data = .cell (some (.int ((nums.getD (pl + 1).toNat 0).fmod 5) tk2)) → Off H L d tL DU I P → Off R L d tL DU I P → @Ne Nat R H →
      wpAny (model prg w) (Ar D U g (lawEnv L fa) []) (execs loopRest (lawEnv L fa)) Q E { s with heap := h', toks := tk' })
    : wpAny (model prg w) (Ar D U g (lawEnv L fa) []) (execs loopBody (lawEnv L fa)) Q E s := by
  obtain ⟨B, X, T, hf1, hk1, hD, hU⟩ := cx
  dsimp only [lawEnv, loopBody, lawBody, lawScope, lawStmt, PySem.Challenge.pw_ew0039_01] at hf1 hk1 ⊢
  w_on
  w_strict k_steps
  w_strict walk_at "ruc compT"
  refine' pc_rest (fun q => q.1 == (nums.getD (pl + 1).toNat 0).fmod 5) hp (fun t' k' v' t1' t2' nt' I' oI' C' oC' D' m' ys' h' tk' E' hm' hC' hx' F' N' off' ne' => ?_) (fun ys' hys' => ?_)
  · w_strict k_steps
    · exact LCg.CompEnd.intro F' N' _ (fun p hp => hp) off' (Or.inr ⟨W.listOf pvs.toArray np, by k_mem, rfl, np, rfl⟩) ⟨rfl, rfl, beq_iff_eq.mpr (by assumption)⟩
    · exact LCg.CompEnd.intro F' N' _ (fun p hp => hp) off' (Or.inr ⟨W.listOf pvs.toArray np, by k_mem, rfl, np, rfl⟩) ⟨rfl, beq_eq_false_iff_ne.mpr (by assumption)⟩
  w_strict k_steps
  w_strict walk_at "ruc compT"
  refine' pc_rest (fun q => q.1 != (nums.getD (pl + 1).toNat 0).fmod 5) hp (fun t' k' v' t1' t2' nt' I' oI' C' oC' D' m' ys' h' tk' E' hm' hC' hx' F' N' off' ne' => ?_) (fun ys' hys' => ?_)
  · w_strict k_steps
    · exact LCg.CompEnd.intro F' N' _ (fun p hp => hp) off' (Or.inr ⟨W.listOf pvs.toArray np, by k_mem, rfl, np, rfl⟩) ⟨rfl, rfl, bne_iff_ne.mpr (by assumption)⟩
    · exact LCg.CompEnd.intro F' N' _ (fun p hp => hp) off' (Or.inr ⟨W.listOf pvs.toArray np, by k_mem, rfl, np, rfl⟩) ⟨rfl, by first | (rw [bne_eq_false_iff_eq]; assumption) | (rw [bne_eq_false_iff_eq]; exact Decidable.not_not.mp (by assumption))⟩
  w_strict k_steps
  (show wpAny _ _ _ _ _ _)
  rename Fr h₀ L _ _ => kF
  rename News h₀ L _ _ => kN
  exact h _ _ _ _ _ _ _ _ _ kF kN (by assumption) (by assumption) (by assumption) (by dsimp only [Off]; omega) (by dsimp only [Off]; omega) (by omega)
end
end Ruc
end
section
open PySem PySem.W PySem.Calls PySem.Spec PyProof.Rows
set_option maxHeartbeats 1000000
namespace Ruc
theorem updF_mem {d : Addr} {o o' : Obj} {l : List (Addr × Obj)} {u : Obj → List (Addr × Obj)} (U : UpdF d o l u) {p : Addr × Obj} (hp : p ∈ u o') : p = (d, o') ∨ (p ∈ l ∧ p.1 ≠ d) := by
  obtain ⟨pre, post, rfl, hu, h1, h2⟩ := U.split
  rw [hu] at hp
  rcases List.mem_append.mp hp with h | h
  · exact .inr ⟨List.mem_append_left _ h, h1 p h⟩
  · rcases List.mem_cons.mp h with h | h
    · exact .inl h
    · exact .inr ⟨List.mem_append_right _ (.tail _ h), h2 p h⟩
theorem updF_here {d : Addr} {o : Obj} {l : List (Addr × Obj)} {u : Obj → List (Addr × Obj)} (U : UpdF d o l u) : (d, o) ∈ l := by
  obtain ⟨pre, post, rfl, _, _, _⟩ := U.split
  exact List.mem_append_right _ (.head _)
theorem allLt_mem {d : Addr} : ∀ {l : List (Addr × Obj)}, AllLt d l → ∀ p ∈ l, @LT.lt Nat _ p.1 d
  | [], _, _, h => nomatch h
  | _ :: _, x, p, h => by
    rcases List.mem_cons.mp h with rfl | h
    · exact x.1
    · exact allLt_mem x.2 p h
def DispS (sil : Bool) (dv : Value) (tL cT : Addr) (rest : List (Addr × Obj)) : Prop :=
  (sil = true ∧ dv = .none) ∨ (sil = false ∧ ∃ f qual pm c' ctv oc vs t, dv = .ref f ∧ (f, lamObj qual cT pm c' ctv) ∈ rest ∧ (c', oc) ∈ rest ∧ oc.data = .fields vs ∧ vs[1]? = some (.str qual t))
theorem DispS.disp {sil : Bool} {dv : Value} {tL cT : Addr} {rest rest' : List (Addr × Obj)} (h : DispS sil dv tL cT rest) (hs : ∀ p ∈ rest, p ∈ rest') : Disp dv tL cT rest' := by
  rcases h with ⟨_, h⟩ | ⟨_, f, qual, pm, c', ctv, oc, vs, t, h1, h2, h3, h4, h5⟩
  · exact .inl h
  · exact .inr ⟨f, qual, pm, c', ctv, oc, vs, t, h1, hs _ h2, hs _ h3, h4, h5⟩
theorem DispS.mono {sil : Bool} {dv : Value} {tL cT : Addr} {rest rest' : List (Addr × Obj)} (h : DispS sil dv tL cT rest) (hs : ∀ p ∈ rest, p ∈ rest') : DispS sil dv tL cT rest' := by
  rcases h with h | ⟨h0, f, qual, pm, c', ctv, oc, vs, t, h1, h2, h3, h4, h5⟩
  · exact .inl h
  · exact .inr ⟨h0, f, qual, pm, c', ctv, oc, vs, t, h1, hs _ h2, hs _ h3, h4, h5⟩
theorem DispS.told {sil : Bool} {dv : Value} {tL cT : Addr} {rest : List (Addr × Obj)} {vsT : List Value} {told : List Int} {v : Int} {t : Tok} (h : DispS sil dv tL cT rest) (hI : IntsAre vsT told) : IntsAre (toldBy dv vsT (.int v t)) (if sil then told else told ++ [v]) := by
  rcases h with ⟨rfl, rfl⟩ | ⟨rfl, f, qual, pm, c', ctv, oc, vs, t, rfl, _⟩
  · exact hI
  · exact IntsAre.append hI (.cons v _ .nil)
section
variable {w : World} {A₀ : Around} {base h₀ : Heap} {outer : List Env} {e1 : Env} {L x dx d tL cT : Addr} {loose : List Str} {mean : ExcName → Option Value} {m mg mb : Str → Option Value} {D U n : Nat}
  {gg : Option (List Code)} {s : Shared} {E : Value → Shared → Prop} {Q : Value → Shared → Prop} {mv dv : Value} {t1 t2 t3 : Tok} {nn nT : Nat} {o oT : Obj} {kvs : List (Int × Value)} {c : List (Int × Int)} {k : Int} {tk : Tok} {news tl : List (Addr × Obj)}
  {g : Obj → List (Addr × Obj)} {g2 : Obj → Obj → List (Addr × Obj)} {sil : Bool} {vsT : List Value} {told : List Int}
theorem len_G (cx : Cx (n + 2) w A₀ base h₀ outer e1 L loose mean mg mb D U) (F : Fr h₀ L s.heap m) (N : News h₀ L s.heap news) (md : (d, o) ∈ news) (mx : (x, instObj 81 dx) ∈ news) (mdx : (dx, selfDict w t1 t2 t3 mv dv d nn) ∈ news)
    (hd1 : o.IsDictOf (PySem.intKind prg w) kvs) (hf : PyProof.V.FlatPairs PyData.int kvs (kdfD c)) (hc : c.length ≤ 100) (lo : (d == sysModules) = false)
    (h : ∀ h' t tk', Fr h₀ L h' m → News h₀ L h' news → Q (.int (c.length : Nat) t) { s with heap := h', toks := tk' }) :
    wpAny (model prg w) (Ar D U gg e1 outer) (call (.ref 57) [.ref x]) Q E s := by
  have N1 : News h₀ L s.heap ((d, o) :: (x, instObj 81 dx) :: (dx, selfDict w t1 t2 t3 mv dv d nn) :: news) := fun p hp => by
    rcases List.mem_cons.mp hp with rfl | hp
    · exact N _ md
    rcases List.mem_cons.mp hp with rfl | hp
    · exact N _ mx
    rcases List.mem_cons.mp hp with rfl | hp
    · exact N _ mdx
    exact N _ hp
  exact len_spec cx F N1 hd1 hf (by omega) lo fun h' t tk' F' N' => h h' t tk' F' fun p hp => N' p (.tail _ (.tail _ (.tail _ hp)))
theorem walked_G (cx : Cx (n + 5) w A₀ h₀ h₀ [] e1 L loose mean mg mb D U) (F : Fr h₀ L s.heap m) (N : News h₀ L s.heap news) (mx : (x, instObj 81 dx) ∈ news) (mdx : (dx, selfDict w t1 t2 t3 mv dv d nn) ∈ news)
    (h : ∀ h' tk', Fr h₀ L h' m → News h₀ L h' news → Q (.bool false) { s with heap := h', toks := tk' }) :
    wpAny (model prg w) (Ar D U gg e1 []) (call (.ref 106) [.ref x]) Q E s := by
  have N1 : News h₀ L s.heap ((x, instObj 81 dx) :: (dx, selfDict w t1 t2 t3 mv dv d nn) :: news) := fun p hp => by
    rcases List.mem_cons.mp hp with rfl | hp
    · exact N _ mx
    rcases List.mem_cons.mp hp with rfl | hp
    · exact N _ mdx
    exact N _ hp
  exact walked_spec cx F N1 fun h' tk' F' N' => h h' tk' F' fun p hp => N' p (.tail _ (.tail _ hp))
abbrev offd (d : Addr) (news : List (Addr × Obj)) : List (Addr × Obj) := news.filter fun p => !(Nat.beq p.1 d)
theorem offd_off {p : Addr × Obj} (h : p ∈ offd d news) : p ∈ news ∧ p.1 ≠ d := by
  obtain ⟨h1, h2⟩ := List.mem_filter.mp h
  refine ⟨h1, fun e => ?_⟩
  rw [e] at h2
  have : Nat.beq d d = true := Nat.beq_refl d
  rw [this] at h2; cases h2
theorem offd_in {p : Addr × Obj} (h : p ∈ news) (hn : p.1 ≠ d) : p ∈ offd d news := by
  refine List.mem_filter.mpr ⟨h, ?_⟩
  have : Nat.beq p.1 d = false := by
    cases e : Nat.beq p.1 d with
    | false => rfl
    | true => exact absurd (Nat.eq_of_beq_eq_true e) hn
  rw [this]; rfl
theorem canon1 {h : Heap} (N : News h₀ L h news) (md : (d, o) ∈ news) (mx : (x, instObj 81 dx) ∈ news) (mdx : (dx, selfDict w t1 t2 t3 mv dv d nn) ∈ news) :
    News h₀ L h ((d, o) :: (x, instObj 81 dx) :: (dx, selfDict w t1 t2 t3 mv dv d nn) :: offd d news) := fun p hp => by
  rcases List.mem_cons.mp hp with rfl | hp
  · exact N _ md
  rcases List.mem_cons.mp hp with rfl | hp
  · exact N _ mx
  rcases List.mem_cons.mp hp with rfl | hp
  · exact N _ mdx
  exact N _ (offd_off hp).1
theorem same_at {h : Heap} (N : News h₀ L h news) (md : (d, o) ∈ news) {p : Addr × Obj} (hp : p ∈ news) (e : p.1 = d) : p = (d, o) := by
  have h1 := (N p hp).1
  rw [e, (N _ md).1] at h1
  exact Prod.ext e (Option.some.inj h1).symm
theorem back0 {h h' : Heap} {X : List (Addr × Obj)} (N : News h₀ L h news) (md : (d, o) ∈ news) (N' : News h₀ L h' ((d, o) :: X)) (hX : ∀ p ∈ offd d news, p ∈ X) : News h₀ L h' news := fun p hp => by
  by_cases e : p.1 = d
  · rw [same_at N md hp e]; exact N' _ (.head _)
  · exact N' _ (.tail _ (hX p (offd_in hp e)))
theorem back1 {h' : Heap} {X : List (Addr × Obj)} {o' : Obj} (U : UpdF d o news g) (N' : News h₀ L h' ((d, o') :: X)) (hX : ∀ p ∈ offd d news, p ∈ X) : News h₀ L h' (g o') := fun p hp => by
  rcases updF_mem U hp with rfl | ⟨hp, e⟩
  · exact N' _ (.head _)
  · exact N' _ (.tail _ (hX p (offd_in hp e)))
theorem keys_G (cx : Cx (n + 2) w A₀ base h₀ outer e1 L loose mean mg mb D U) (F : Fr h₀ L s.heap m) (N : News h₀ L s.heap news) (md : (d, o) ∈ news) (mx : (x, instObj 81 dx) ∈ news) (mdx : (dx, selfDict w t1 t2 t3 mv dv d nn) ∈ news)
    (hd1 : o.IsDictOf (PySem.intKind prg w) kvs) (hf : PyProof.V.FlatPairs PyData.int kvs (kdfD c)) (hc : c.length ≤ 100) (hlt : @LT.lt Nat _ x d ∧ @LT.lt Nat _ dx x) (lo : (d == sysModules) = false)
    (h : ∀ S h' so tk', Fr h₀ L h' m → News h₀ L h' ((S, so) :: news) → AllLt S news → SetKeys prg w (c.map (·.1)) so → Q (.ref S) { s with heap := h', toks := tk' }) :
    wpAny (model prg w) (Ar D U gg e1 outer) (call (.ref 78) [.ref x]) Q E s :=
  keys_spec cx F (canon1 N md mx mdx) hd1 hf hc hlt lo (fun p hp => (offd_off hp).2) fun S h' so tk' F' N' l1 l2 hS =>
    h S h' so tk' F' (fun p hp => by
      rcases List.mem_cons.mp hp with rfl | hp
      · exact N' _ (.head _)
      · exact back0 N md (fun p hp => N' p (.tail _ hp)) (fun p hp => .tail _ (.tail _ hp)) p hp)
      (allLt_of fun p hp => by
        by_cases e : p.1 = d
        · rw [e]; exact l1
        · exact allLt_mem l2 p (offd_in hp e)) hS
theorem got_miss_G (cx : Cx (n + 5) w A₀ h₀ h₀ [] e1 L loose mean mg mb D U) (F : Fr h₀ L s.heap m) (N : News h₀ L s.heap news) (md : (d, o) ∈ news) (mx : (x, instObj 81 dx) ∈ news) (mdx : (dx, selfDict w t1 t2 t3 mv dv d nn) ∈ news)
    (hd1 : o.IsDictOf (PySem.intKind prg w) kvs) (hf : PyProof.V.FlatPairs PyData.int kvs (kdfD c)) (hk : kdfHas c k = false) (hc : c.length ≤ 100) (hlt : @LT.lt Nat _ x d ∧ @LT.lt Nat _ dx x) (lo : (d == sysModules) = false)
    (h : ∀ B nB h' tk', Fr h₀ L h' m → News h₀ L h' ((B, W.listOf #[] nB) :: news) → AllLt B news → Q (.ref B) { s with heap := h', toks := tk' }) :
    wpAny (model prg w) (Ar D U gg e1 []) (call (.ref 92) [.ref x, .int k tk]) Q E s :=
  got_miss cx F (canon1 N md mx mdx) hd1 hf hk hc hlt lo (fun p hp => (offd_off hp).2) fun B nB h' tk' F' N' l1 l2 =>
    h B nB h' tk' F' (fun p hp => by
      rcases List.mem_cons.mp hp with rfl | hp
      · exact N' _ (.head _)
      · exact back0 N md (fun p hp => N' p (.tail _ hp)) (fun p hp => .tail _ (.tail _ hp)) p hp)
      (allLt_of fun p hp => by
        by_cases e : p.1 = d
        · rw [e]; exact l1
        · exact allLt_mem l2 p (offd_in hp e))
theorem got_hit_G (cx : Cx (n + 5) w A₀ h₀ h₀ [] e1 L loose mean mg mb D U) (F : Fr h₀ L s.heap m) (N : News h₀ L s.heap news) (U1 : UpdF d o news g) (mx : (x, instObj 81 dx) ∈ news) (mdx : (dx, selfDict w t1 t2 t3 mv dv d nn) ∈ news)
    (hd1 : o.IsDictOf (PySem.intKind prg w) kvs) (hf : PyProof.V.FlatPairs PyData.int kvs (kdfD c)) (hk : kdfHas c k = true) (hc : c.length ≤ 100) (hlt : @LT.lt Nat _ x d ∧ @LT.lt Nat _ dx x) (lo : (d == sysModules) = false)
    (h : ∀ B nB h' (o' : Obj) (kvs' : List (Int × Value)) t tk', Fr h₀ L h' m → News h₀ L h' ((B, W.listOf #[.int (kdfLook c k 0) t] nB) :: g o') → (∀ p ∈ news, p.1 < B) →
      o'.IsDictOf (PySem.intKind prg w) kvs' → PyProof.V.FlatPairs PyData.int kvs' (kdfD (kdfPut (kdyDel c k) k (kdfLook c k 0))) → Q (.ref B) { s with heap := h', toks := tk' }) :
    wpAny (model prg w) (Ar D U gg e1 []) (call (.ref 92) [.ref x, .int k tk]) Q E s :=
  have md := updF_here U1
  got_hit cx F (canon1 N md mx mdx) hd1 hf hk hc hlt lo (fun p hp => (offd_off hp).2) fun B nB h' o' kvs' t tk' F' N' l1 l2 a b =>
    h B nB h' o' kvs' t tk' F' (fun p hp => by
      rcases List.mem_cons.mp hp with rfl | hp
      · exact N' _ (.head _)
      · exact back1 U1 (fun p hp => N' p (.tail _ hp)) (fun p hp => .tail _ (.tail _ hp)) p hp)
      (fun p hp => by
        by_cases e : p.1 = d
        · rw [e]; exact l1
        · exact allLt_mem l2 p (offd_in hp e)) a b
theorem taken_miss_G (cx : Cx (n + 5) w A₀ h₀ h₀ [] e1 L loose mean mg mb D U) (F : Fr h₀ L s.heap m) (N : News h₀ L s.heap news) (md : (d, o) ∈ news) (mx : (x, instObj 81 dx) ∈ news) (mdx : (dx, selfDict w t1 t2 t3 mv dv d nn) ∈ news)
    (hd1 : o.IsDictOf (PySem.intKind prg w) kvs) (hf : PyProof.V.FlatPairs PyData.int kvs (kdfD c)) (hk : kdfHas c k = false) (hc : c.length ≤ 100) (hlt : @LT.lt Nat _ x d ∧ @LT.lt Nat _ dx x) (lo : (d == sysModules) = false)
    (h : ∀ h' tk', Fr h₀ L h' m → News h₀ L h' news → Q (.bool false) { s with heap := h', toks := tk' }) :
    wpAny (model prg w) (Ar D U gg e1 []) (call (.ref 99) [.ref x, .int k tk]) Q E s :=
  taken_miss cx F (canon1 N md mx mdx) hd1 hf hk hc hlt lo (fun p hp => (offd_off hp).2) fun h' tk' F' N' =>
    h h' tk' F' (back0 N md N' fun p hp => .tail _ (.tail _ hp))
theorem setitem_new_G {v size : Int} {tv ts : Tok} (cx : Cx (n + 3) w A₀ h₀ h₀ [] e1 L loose mean mg mb D U) (F : Fr h₀ L s.heap m) (N : News h₀ L s.heap news) (U1 : UpdF d o news g) (mx : (x, instObj 81 dx) ∈ news) (mdx : (dx, selfDict w t1 t2 t3 (.int size ts) dv d nn) ∈ news)
    (hd1 : o.IsDictOf (PySem.intKind prg w) kvs) (hf : PyProof.V.FlatPairs PyData.int kvs (kdfD c)) (hk : kdfHas c k = false) (hc : c.length ≤ 100) (hfit : ((kdfPut c k v).length : Int) ≤ size) (hlt : @LT.lt Nat _ x d ∧ @LT.lt Nat _ dx x) (lo : (d == sysModules) = false)
    (h : ∀ h' (o' : Obj) (kvs' : List (Int × Value)) tk', Fr h₀ L h' m → News h₀ L h' (g o') →
      o'.IsDictOf (PySem.intKind prg w) kvs' → PyProof.V.FlatPairs PyData.int kvs' (kdfD (kdfPut c k v)) → Q .none { s with heap := h', toks := tk' }) :
    wpAny (model prg w) (Ar D U gg e1 []) (call (.ref 43) [.ref x, .int k tk, .int v tv]) Q E s :=
  have md := updF_here U1
  setitem_new cx F (canon1 N md mx mdx) hd1 hf hk hc hfit hlt lo (fun p hp => (offd_off hp).2) fun h' o' kvs' tk' F' N' a b =>
    h h' o' kvs' tk' F' (back1 U1 N' fun p hp => .tail _ (.tail _ hp)) a b
abbrev offdt (d tL : Addr) (news : List (Addr × Obj)) : List (Addr × Obj) := offd tL (offd d news)
theorem canon2 {h : Heap} {oL : Obj} (N : News h₀ L h news) (md : (d, o) ∈ news) (mx : (x, instObj 81 dx) ∈ news) (mdx : (dx, selfDict w t1 t2 t3 mv dv d nn) ∈ news) (mt : (tL, oL) ∈ news) (mc : (cT, oT) ∈ news) :
    News h₀ L h ((d, o) :: (x, instObj 81 dx) :: (dx, selfDict w t1 t2 t3 mv dv d nn) :: (tL, oL) :: (cT, oT) :: offdt d tL news) := fun p hp => by
  rcases List.mem_cons.mp hp with rfl | hp
  · exact N _ md
  rcases List.mem_cons.mp hp with rfl | hp
  · exact N _ mx
  rcases List.mem_cons.mp hp with rfl | hp
  · exact N _ mdx
  rcases List.mem_cons.mp hp with rfl | hp
  · exact N _ mt
  rcases List.mem_cons.mp hp with rfl | hp
  · exact N _ mc
  exact N _ (offd_off (offd_off hp).1).1
theorem back2 {h' : Heap} {X : List (Addr × Obj)} {o' lT l' ox od : Obj} (U1 : UpdF d o news g) (U2 : ∀ o', UpdF tL lT (g o') (g2 o')) (N' : News h₀ L h' ((d, o') :: (x, ox) :: (dx, od) :: (tL, l') :: X)) (hX : ∀ p ∈ offdt d tL news, p ∈ X) : News h₀ L h' (g2 o' l') := fun p hp => by
  rcases updF_mem (U2 o') hp with rfl | ⟨hp, e⟩
  · exact N' _ (.tail _ (.tail _ (.tail _ (.head _))))
  · rcases updF_mem U1 hp with rfl | ⟨hp, e2⟩
    · exact N' _ (.head _)
    · exact N' _ (.tail _ (.tail _ (.tail _ (.tail _ (hX p (offd_in (offd_in hp e2) e))))))
theorem mem_told {lT : Obj} (U1 : UpdF d o news g) (U2 : ∀ o', UpdF tL lT (g o') (g2 o')) : (tL, lT) ∈ news := by
  have := updF_here (U2 o)
  rwa [updF_self U1] at this
theorem disp_tl (hD : DispS sil dv tL cT tl) (hs : ∀ p ∈ tl, p ∈ news ∧ p.1 ≠ d ∧ p.1 ≠ tL) : Disp dv tL cT (offdt d tL news) :=
  hD.disp fun p hp => offd_in (offd_in (hs p hp).1 (hs p hp).2.1) (hs p hp).2.2
abbrev Told (sil : Bool) (vsT : List Value) (told : List Int) (v : List Int) : Prop := IntsAre vsT (if sil then told else told ++ v)
theorem taken_hit_G (cx : Cx (n + 5) w A₀ h₀ h₀ [] e1 L loose mean mg mb D U) (F : Fr h₀ L s.heap m) (N : News h₀ L s.heap news) (U1 : UpdF d o news g) (U2 : ∀ o', UpdF tL (W.listOf vsT.toArray nT) (g o') (g2 o')) (mx : (x, instObj 81 dx) ∈ news) (mdx : (dx, selfDict w t1 t2 t3 mv dv d nn) ∈ news) (mc : (cT, oT) ∈ news)
    (hd1 : o.IsDictOf (PySem.intKind prg w) kvs) (hf : PyProof.V.FlatPairs PyData.int kvs (kdfD c)) (hk : kdfHas c k = true) (hc : c.length ≤ 100) (hI : IntsAre vsT told) (hT : told.length ≤ 900) (hoT : oT.data = .cell (some (.ref tL)))
    (hlt : @LT.lt Nat _ x d ∧ @LT.lt Nat _ dx x ∧ @LT.lt Nat _ tL dx ∧ @LT.lt Nat _ cT tL) (lo : (d == sysModules) = false) (hD : DispS sil dv tL cT tl) (hs : ∀ p ∈ tl, p ∈ news ∧ p.1 ≠ d ∧ p.1 ≠ tL)
    (h : ∀ h' (o' : Obj) (kvs' : List (Int × Value)) vsT' nT' tk', Fr h₀ L h' m → News h₀ L h' (g2 o' (W.listOf vsT'.toArray nT')) →
      o'.IsDictOf (PySem.intKind prg w) kvs' → PyProof.V.FlatPairs PyData.int kvs' (kdfD (kdyDel c k)) → Told sil vsT' told [kdfLook c k 0] → Q (.bool true) { s with heap := h', toks := tk' }) :
    wpAny (model prg w) (Ar D U gg e1 []) (call (.ref 99) [.ref x, .int k tk]) Q E s :=
  taken_hit cx F (canon2 N (updF_here U1) mx mdx (mem_told U1 U2) mc) hd1 hf hk hc (by rw [hI.length]; omega) hoT hlt lo (fun p hp => (offd_off (offd_off hp).1).2) (fun p hp => (offd_off hp).2) (disp_tl hD hs) fun h' o' kvs' t tk' F' N' a b =>
    h h' o' kvs' _ _ tk' F' (back2 U1 U2 N' fun p hp => .tail _ hp) a b (hD.told hI)
theorem setitem_old_G {v : Int} {tv : Tok} (cx : Cx (n + 3) w A₀ h₀ h₀ [] e1 L loose mean mg mb D U) (F : Fr h₀ L s.heap m) (N : News h₀ L s.heap news) (U1 : UpdF d o news g) (U2 : ∀ o', UpdF tL (W.listOf vsT.toArray nT) (g o') (g2 o')) (mx : (x, instObj 81 dx) ∈ news) (mdx : (dx, selfDict w t1 t2 t3 mv dv d nn) ∈ news) (mc : (cT, oT) ∈ news)
    (hd1 : o.IsDictOf (PySem.intKind prg w) kvs) (hf : PyProof.V.FlatPairs PyData.int kvs (kdfD c)) (hk : kdfHas c k = true) (hc : c.length ≤ 100) (hI : IntsAre vsT told) (hT : told.length ≤ 900) (hoT : oT.data = .cell (some (.ref tL)))
    (hlt : @LT.lt Nat _ x d ∧ @LT.lt Nat _ dx x ∧ @LT.lt Nat _ tL dx ∧ @LT.lt Nat _ cT tL) (lo : (d == sysModules) = false) (hD : DispS sil dv tL cT tl) (hs : ∀ p ∈ tl, p ∈ news ∧ p.1 ≠ d ∧ p.1 ≠ tL)
    (h : ∀ h' (o' : Obj) (kvs' : List (Int × Value)) vsT' nT' tk', Fr h₀ L h' m → News h₀ L h' (g2 o' (W.listOf vsT'.toArray nT')) →
      o'.IsDictOf (PySem.intKind prg w) kvs' → PyProof.V.FlatPairs PyData.int kvs' (kdfD (kdfPut (kdyDel c k) k v)) → Told sil vsT' told [kdfLook c k 0] → Q .none { s with heap := h', toks := tk' }) :
    wpAny (model prg w) (Ar D U gg e1 []) (call (.ref 43) [.ref x, .int k tk, .int v tv]) Q E s :=
  setitem_old cx F (canon2 N (updF_here U1) mx mdx (mem_told U1 U2) mc) hd1 hf hk hc (by rw [hI.length]; omega) hoT hlt lo (fun p hp => (offd_off (offd_off hp).1).2) (fun p hp => (offd_off hp).2) (disp_tl hD hs) fun h' o' kvs' t tk' F' N' a b =>
    h h' o' kvs' _ _ tk' F' (back2 U1 U2 N' fun p hp => .tail _ hp) a b (hD.told hI)
theorem setitem_full_G {v size k0 v0 : Int} {tv ts : Tok} {c2 : List (Int × Int)} (cx : Cx (n + 3) w A₀ h₀ h₀ [] e1 L loose mean mg mb D U) (F : Fr h₀ L s.heap m) (N : News h₀ L s.heap news) (U1 : UpdF d o news g) (U2 : ∀ o', UpdF tL (W.listOf vsT.toArray nT) (g o') (g2 o')) (mx : (x, instObj 81 dx) ∈ news) (mdx : (dx, selfDict w t1 t2 t3 (.int size ts) dv d nn) ∈ news) (mc : (cT, oT) ∈ news)
    (hd1 : o.IsDictOf (PySem.intKind prg w) kvs) (hf : PyProof.V.FlatPairs PyData.int kvs (kdfD c)) (hk : kdfHas c k = false) (hc : c.length ≤ 100) (hfull : size < ((kdfPut c k v).length : Int)) (hfst : kdfPut c k v = (k0, v0) :: c2) (hI : IntsAre vsT told) (hT : told.length ≤ 900) (hoT : oT.data = .cell (some (.ref tL)))
    (hlt : @LT.lt Nat _ x d ∧ @LT.lt Nat _ dx x ∧ @LT.lt Nat _ tL dx ∧ @LT.lt Nat _ cT tL) (lo : (d == sysModules) = false) (hD : DispS sil dv tL cT tl) (hs : ∀ p ∈ tl, p ∈ news ∧ p.1 ≠ d ∧ p.1 ≠ tL)
    (h : ∀ h' (o' : Obj) (kvs' : List (Int × Value)) vsT' nT' tk', Fr h₀ L h' m → News h₀ L h' (g2 o' (W.listOf vsT'.toArray nT')) →
      o'.IsDictOf (PySem.intKind prg w) kvs' → PyProof.V.FlatPairs PyData.int kvs' (kdfD (kdyDel (kdfPut c k v) k0)) → Told sil vsT' told [v0] → Q .none { s with heap := h', toks := tk' }) :
    wpAny (model prg w) (Ar D U gg e1 []) (call (.ref 43) [.ref x, .int k tk, .int v tv]) Q E s :=
  setitem_full cx F (canon2 N (updF_here U1) mx mdx (mem_told U1 U2) mc) hd1 hf hk hc hfull hfst (by rw [hI.length]; omega) hoT hlt lo (fun p hp => (offd_off (offd_off hp).1).2) (fun p hp => (offd_off hp).2) (disp_tl hD hs) fun h' o' kvs' t tk' F' N' a b =>
    h h' o' kvs' _ _ tk' F' (back2 U1 U2 N' fun p hp => .tail _ hp) a b (hD.told hI)
theorem clear_G (cx : Cx (n + 2) w A₀ base h₀ outer e1 L loose mean mg mb D U) (F : Fr h₀ L s.heap m) (N : News h₀ L s.heap news) (U1 : UpdF d o news g) (U2 : ∀ o', UpdF tL (W.listOf vsT.toArray nT) (g o') (g2 o')) (mx : (x, instObj 81 dx) ∈ news) (mdx : (dx, selfDict w t1 t2 t3 mv dv d nn) ∈ news) (mc : (cT, oT) ∈ news)
    (hd1 : o.IsDictOf (PySem.intKind prg w) kvs) (hf : PyProof.V.FlatPairs PyData.int kvs (kdfD c)) (hc : c.length ≤ 100) (hI : IntsAre vsT told) (hT : told.length ≤ 500) (hoT : oT.data = .cell (some (.ref tL)))
    (hlt : @LT.lt Nat _ x d ∧ @LT.lt Nat _ dx x ∧ @LT.lt Nat _ tL dx ∧ @LT.lt Nat _ cT tL) (lo : (d == sysModules) = false) (hD : DispS sil dv tL cT tl) (hs : ∀ p ∈ tl, p ∈ news ∧ p.1 ≠ d ∧ p.1 ≠ tL)
    (h : ∀ h' (o' : Obj) (kvs' : List (Int × Value)) vsT' nT' tk', Fr h₀ L h' m → News h₀ L h' (g2 o' (W.listOf vsT'.toArray nT')) →
      o'.IsDictOf (PySem.intKind prg w) kvs' → PyProof.V.FlatPairs PyData.int kvs' (kdfD []) → Told sil vsT' told (c.map (·.2)) → Q .none { s with heap := h', toks := tk' }) :
    wpAny (model prg w) (Ar D U gg e1 outer) (call (.ref 71) [.ref x]) Q E s := by
  have hC := canon2 N (updF_here U1) mx mdx (mem_told U1 U2) mc
  have hs' : ∀ p ∈ tl, p ∈ offdt d tL news := fun p hp => offd_in (offd_in (hs p hp).1 (hs p hp).2.1) (hs p hp).2.2
  rcases hD with ⟨rfl, rfl⟩ | ⟨rfl, f, qual, pm, c', ctv, oc, vs, t, rfl, h2, h3, h4, h5⟩
  · exact clear_none cx F (canon1 N (updF_here U1) mx mdx) hd1 hf hc ⟨hlt.1, hlt.2.1⟩ lo (fun p hp => (offd_off hp).2) fun h' o' kvs' tk' F' N' a b =>
      h h' o' kvs' vsT nT tk' F' (by
        have e : g2 o' (W.listOf vsT.toArray nT) = g o' := updF_self (U2 o')
        rw [e]; exact back1 U1 N' fun p hp => .tail _ (.tail _ hp)) a b hI
  · exact clear_lam cx F hC hd1 hf hc hI hT hoT hlt lo (fun p hp => (offd_off (offd_off hp).1).2) (fun p hp => (offd_off hp).2) (hs' _ h2) (hs' _ h3) h4 h5 fun h' o' kvs' vsT' nT' tk' F' N' a b i =>
      h h' o' kvs' vsT' nT' tk' F' (back2 U1 U2 N' fun p hp => .tail _ hp) a b i
end
end Ruc
end
section
open PySem PySem.W PySem.Calls PySem.Spec PyProof.Rows
set_option maxHeartbeats 1000000
namespace Ruc
theorem fill11 : PySem.Challenge.rw_ew0039_01.row.prog = PySem.Challenge.rw_ew0039_01.row.prog ∧ hd.heap_39 = hd.heap_39 := by k_fill; exact ⟨rfl, rfl⟩
def checks : List Stmt := loopBody.drop 5
local macro_rules | `(tactic| k_room) => `(tactic| (simp only [depth_under_make, depth_under_kw, depth_in1, depth_deeper, depth_caller, Ar]; omega))
local macro_rules | `(tactic| k_mem) => `(tactic| assumption)
local macro_rules | `(tactic| k_all) => `(tactic| assumption)
local macro_rules | `(tactic| walk_at "ruc enter") => `(tactic| (refine wpAny_call ?_; (refine' code_def ?B ?F ?X ?N ?T rfl ?f1 ?f2 ?k6 ?k7 ?k8 ?k9 ?kB ?_ ?c2 ?c3 ?c4 ?c5; (case B => assumption); (case F => assumption); (case X => assumption); (case N => assumption); (case T => assumption); (case f1 => assumption); (case f2 => assumption); (case k6 => k_is); (case k7 => k_is); (case k8 => k_room); (case k9 => exact BindsTo.of_eq rfl); (case c5 => decide); (case kB => exact locs rfl); (case c2 => exact rfl); (case c3 => exact rfl); (case c4 => exact rfl); k_whole; intro g' L' h' FG' F' N' B' X' T'; (try dsimp only); (try k_lift B'); (try k_fold))))
theorem ne_ints_same {prog : Program} {w : World} {A : Around} {E : Value → Shared → Prop} {s : Shared} {h₀ : Heap} {L : Addr} {news : List (Addr × Obj)} {a b : Addr} {as bs : List Value} {na nb : Nat} {ns : List Int} {Q : Value → Shared → Prop}
    (N : News h₀ L s.heap news) (ma : (a, W.listOf as.toArray na) ∈ news) (mb : (b, W.listOf bs.toArray nb) ∈ news) (ia : IntsAre as ns) (ib : IntsAre bs ns) (hu : A.units + 64 < cLine) (h : Q (.bool false) s) :
    wpAny (model prog w) A (compareOp .NotEq (.ref a) (.ref b)) Q E s :=
  ne_intsK ⟨_, (N _ ma).1, rfl, _, rfl⟩ ia ⟨_, (N _ mb).1, rfl, _, rfl⟩ ib hu (by simpa using h)
local macro_rules | `(tactic| walk_at "ruc cx") => `(tactic| exact ⟨by assumption, by assumption, by assumption, rfl, rfl, by (first | omega | (dsimp only [Ar]; omega) | (simp only [depth_deeper, depth_in1, Around.deeper_units, Around.in1_units, Ar]; omega)), by (first | omega | (dsimp only [Ar]; omega) | (simp only [depth_deeper, depth_in1, Around.deeper_units, Around.in1_units, Ar]; omega))⟩)
local macro_rules | `(tactic| walk_at "call ref") => `(tactic| (k_here; (with_reducible show wpAny _ _ (call (Value.ref 57) _) _ _ _); k_dflt (refine' len_G (n := 3) ?cx ?F ?N ?md ?mx ?mdx ?hd1 ?hf ?hc ?lo ?_; (case cx => walk_at "ruc cx"); (case F => k_asm); (case N => k_asm); (case mx => k_mem); (case mdx => k_mem); (case md => k_mem); (case hd1 => assumption); (case hf => assumption); (case hc => assumption); (case lo => assumption)); intro h' t' tk' F' N'; (try dsimp only [PySem.W.LenBack]); (try (refine ⟨⟨by omega, by omega⟩, ?_⟩))))
local macro_rules | `(tactic| walk_at "call ref") => `(tactic| (k_here; (with_reducible show wpAny _ _ (call (Value.ref 78) _) _ _ _); k_dflt (refine' keys_G (n := 3) ?cx ?F ?N ?md ?mx ?mdx ?hd1 ?hf ?hc ?hlt ?lo ?_; (case cx => walk_at "ruc cx"); (case F => k_asm); (case N => k_asm); (case mx => k_mem); (case mdx => k_mem); (case md => k_mem); (case hd1 => assumption); (case hf => assumption); (case hc => assumption); (case hlt => (refine ⟨?_, ?_⟩ <;> omega)); (case lo => assumption)); intro S' h' so' tk' F' N' l1 hSK; (try k_lt l1)))
local macro_rules | `(tactic| walk_at "call ref") => `(tactic| (k_here; (with_reducible show wpAny _ _ (call (Value.ref 106) _) _ _ _); k_dflt (refine' walked_G (n := 3) ?cx ?F ?N ?mx ?mdx ?_; (case cx => walk_at "ruc cx"); (case F => k_asm); (case N => k_asm); (case mx => k_mem); (case mdx => k_mem)); intro h' tk' F' N'))
local macro_rules | `(tactic| walk_at "call builtin:len") => `(tactic| (k_here; (with_reducible show wpAny _ _ (call (Value.builtin "len") [Value.ref _]) _ _ _); k_dflt (refine' kst_len ?k1 ?k2 ?k3 ?k4 ?_; (case k1 => k_asm); (case k2 => k_mem); (case k3 => assumption); (case k4 => omega); k_whole)))
local macro_rules | `(tactic| walk_at "compareOp NotEq ref ref") => `(tactic| (k_here; k_dflt (refine' ne_ints_same ?N ?ma ?mb ?ia ?ib ?hu ?_; (case N => k_asm); (case ma => k_mem); (case mb => k_mem); (case ia => assumption); (case ib => assumption); (case hu => (first | omega | (dsimp only [Ar]; omega))))))
local macro_rules | `(tactic| walk_at "compareOp NotEq ref ref") => `(tactic| (k_here; k_dflt (refine' ne_sets_N ?N ?ma ?mb ?sa ?sb ?hl ?hu ?_; (case N => k_asm); (case ma => k_mem); (case mb => k_mem); (case sa => assumption); (case sb => assumption); (case hl => assumption); (case hu => (dsimp only [Ar]; omega)))))
local macro_rules | `(tactic| walk_at "eval SetComp") => `(tactic| (refine stop_here ?_))
local macro_rules | `(tactic| walk_at "ruc compS") => `(tactic| ((show wpAny _ _ _ _ _ _); k_dflt (refine' SetComp_S (cl := []) ?F ?a1 ?a2 ?a3 ?a4 ?a5 ?_ ?a6; (case F => k_asm); (case a1 => with_unfolding_all rfl); (case a2 => decide); (case a3 => rfl); (case a4 => decide); (case a5 => rfl); (case a6 => intro _; rfl)); walk1; (refine' CompSrcS.ledger ?a1 ?a2 ?a3 ?a4 ?a5 ?_; (case a1 => rfl); (case a2 => k_asm); (case a3 => k_asm); (case a4 => k_mem); (case a5 => assumption); intro g')))
section
variable {w : World} {A₀ : Around} {h₀ : Heap} {L x dx d tL DU P NU I fa : Addr} {loose : List Str} {mean : ExcName → Option Value} {u mg mb : Str → Option Value} {D U n : Nat}
  {g : Option (List Code)} {s : Shared} {E : Value → Shared → Prop} {Q : Flow → Shared → Prop} {dv : Value} {t1 t2 t3 ts tp : Tok} {nn nd np nT nw : Nat} {o oT oK oC oI : Obj} {kvs : List (Int × Value)} {c : List (Int × Int)} {size pl : Int} {sil : Bool} {tail : List (Addr × Obj)}
  {dvs pvs vsT ws : List Value} {nums due : List Int} {tC : Tok}
theorem turn_tail (cx : Cx 10 w A₀ h₀ h₀ [] (lawEnv L fa) L loose mean mg mb D U)
    (F : Fr h₀ L s.heap (fun y => if y = Str.ofString "due" then some (.ref DU) else if y = Str.ofString "pairs" then some (.ref P) else if y = Str.ofString "silent" then some (.bool sil) else if y = Str.ofString "size" then some (.int size ts) else if y = Str.ofString "numbers" then some (.ref NU) else u y))
    (N : News h₀ L s.heap ((I, oI) :: (DU, W.listOf dvs.toArray nd) :: (P, W.listOf pvs.toArray np) :: (d, o) :: (x, instObj 81 dx) :: (dx, selfDict w t1 t2 t3 (.int size ts) dv d nn) :: (tL, W.listOf vsT.toArray nT) :: (NU, W.listOf ws.toArray nw) :: (L + 1 + 1 + 1, oT) :: (L + 1 + 1, oK) :: (L + 1, oC) :: tail))
    (hord : @LT.lt Nat _ (L + 1 + 1 + 1) NU ∧ @LT.lt Nat _ NU tL ∧ @LT.lt Nat _ tL dx ∧ @LT.lt Nat _ dx x ∧ @LT.lt Nat _ x d ∧ @LT.lt Nat _ d DU ∧ @LT.lt Nat _ DU I ∧ @Ne Nat P (L + 1 + 1) ∧ @Ne Nat P d ∧ @Ne Nat P tL ∧ @Ne Nat P DU ∧ @Ne Nat P I)
    (hp : PairsIn tail pvs c) (hpsz : pvs.toArray.size ≤ sizeLine) (hoT : oT.data = .cell (some (.ref tL))) (hoC : oC.data = .cell (some (.ref x)))
    (hd1 : o.IsDictOf (PySem.intKind prg w) kvs) (hf : PyProof.V.FlatPairs PyData.int kvs (kdfD c)) (hc : c.length ≤ 100) (lo : (d == sysModules) = false)
    (hdue : IntsAre dvs due) (hduel : due.length ≤ 500) (htold : IntsAre vsT (if sil then [] else due))
    (h : ∀ h' tk', Fr h₀ L h' (fun y => if y = Str.ofString "due" then some (.ref DU) else if y = Str.ofString "pairs" then some (.ref P) else if y = Str.ofString "silent" then some (.bool sil) else if y = Str.ofString "size" then some (.int size ts) else if y = Str.ofString "numbers" then some (.ref NU) else u y) →
      News h₀ L h' ((I, oI) :: (DU, W.listOf dvs.toArray nd) :: (P, W.listOf pvs.toArray np) :: (d, o) :: (x, instObj 81 dx) :: (dx, selfDict w t1 t2 t3 (.int size ts) dv d nn) :: (tL, W.listOf vsT.toArray nT) :: (NU, W.listOf ws.toArray nw) :: (L + 1 + 1 + 1, oT) :: (L + 1 + 1, oK) :: (L + 1, oC) :: tail) → Q .next { s with heap := h', toks := tk' })
    : wpAny (model prg w) (Ar D U g (lawEnv L fa) []) (execs checks (lawEnv L fa)) Q E s := by
  obtain ⟨B, X, T, hf1, hk1, hD, hU⟩ := cx
  have hpl := hp.length
  have hps : pvs.toArray.size + 1 < scanBound := by rw [List.size_toArray, hpl]; unfold scanBound; omega
  have hcs : (c.map (·.1)).length + 1 < scanBound := by rw [List.length_map]; unfold scanBound; omega
  dsimp only [lawEnv, checks, loopBody, List.drop, lawBody, lawScope, lawStmt, PySem.Challenge.pw_ew0039_01] at hf1 hk1 ⊢
  w_on
  w_strict k_steps
  · rename (_ : Int) ≠ _ => hx
    exact absurd rfl hx
  w_strict walk_at "ruc compS"
  refine' ps_rest hp (fun t' k' v' t1' t2' nt' I' oI' C' oC' D' oD' m' h' tk' E' hm' hC' hx' F' N' off' ne' => ?_) ?_
  · w_strict k_steps
    exact LCg.CompEnd.intro F' N' _ (fun p hp => hp) off' (Or.inr ⟨W.listOf pvs.toArray np, by k_mem, rfl, np, rfl⟩) ⟨rfl, _, rfl⟩
  intro D' oD' h' tk' F' N' hSK2 o1'
  w_strict k_steps
  · skip
    rename Fr h₀ L _ _ => kF
    rename News h₀ L _ _ => kN
    exact h _ _ kF (by first | exact kN | exact fun p hp => kN p (.tail _ hp) | exact fun p hp => kN p (.tail _ (.tail _ hp)) | exact fun p hp => kN p (.tail _ (.tail _ (.tail _ hp))) | exact fun p hp => kN p (.tail _ (.tail _ (.tail _ (.tail _ hp)))))
  · rename sil = true => hs
    rename decide _ = false => hx
    rw [hs] at hx
    simp at hx
  · skip
    rename Fr h₀ L _ _ => kF
    rename News h₀ L _ _ => kN
    exact h _ _ kF (by first | exact kN | exact fun p hp => kN p (.tail _ hp) | exact fun p hp => kN p (.tail _ (.tail _ hp)) | exact fun p hp => kN p (.tail _ (.tail _ (.tail _ hp))) | exact fun p hp => kN p (.tail _ (.tail _ (.tail _ (.tail _ hp)))))
  · rename sil = false => hs
    rename ¬ _ = due => hx
    rw [hs] at hx
    exact absurd rfl hx
end
end Ruc
end
section
open PySem PySem.W PySem.Calls PySem.Spec PyProof.Rows
set_option maxHeartbeats 1500000
namespace Ruc
theorem fillRu12 : PySem.Challenge.rw_ew0039_01.row.prog = PySem.Challenge.rw_ew0039_01.row.prog ∧ hd.heap_39 = hd.heap_39 := by k_fill; exact ⟨rfl, rfl⟩
local macro_rules | `(tactic| k_room) => `(tactic| (simp only [depth_under_make, depth_under_kw, depth_in1, depth_deeper, depth_caller, Ar]; omega))
local macro_rules | `(tactic| k_mem) => `(tactic| assumption)
local macro_rules | `(tactic| k_all) => `(tactic| assumption)
local macro_rules | `(tactic| walk_at "ruc enter") => `(tactic| (refine wpAny_call ?_; (refine' code_def ?B ?F ?X ?N ?T rfl ?f1 ?f2 ?k6 ?k7 ?k8 ?k9 ?kB ?_ ?c2 ?c3 ?c4 ?c5; (case B => assumption); (case F => assumption); (case X => assumption); (case N => assumption); (case T => assumption); (case f1 => assumption); (case f2 => assumption); (case k6 => k_is); (case k7 => k_is); (case k8 => k_room); (case k9 => exact BindsTo.of_eq rfl); (case c5 => decide); (case kB => exact locs rfl); (case c2 => exact rfl); (case c3 => exact rfl); (case c4 => exact rfl); k_whole; intro g' L' h' FG' F' N' B' X' T'; (try dsimp only); (try k_lift B'); (try k_fold))))
local macro_rules | `(tactic| walk_at "ruc cx") => `(tactic| exact ⟨by assumption, by assumption, by assumption, rfl, rfl, by (first | omega | (dsimp only [Ar]; omega) | (simp only [depth_deeper, depth_in1, Around.deeper_units, Around.in1_units, Ar]; omega)), by (first | omega | (dsimp only [Ar]; omega) | (simp only [depth_deeper, depth_in1, Around.deeper_units, Around.in1_units, Ar]; omega))⟩)
local macro_rules | `(tactic| walk_at "call ref") => `(tactic| (k_here; (with_reducible show wpAny _ _ (call (Value.ref 57) _) _ _ _); k_dflt (refine' len_G (n := 3) ?cx ?F ?N ?md ?mx ?mdx ?hd1 ?hf ?hc ?lo ?_; (case cx => walk_at "ruc cx"); (case F => k_asm); (case N => k_asm); (case mx => k_mem); (case mdx => k_mem); (case md => k_mem); (case hd1 => assumption); (case hf => assumption); (case hc => assumption); (case lo => assumption)); intro h' t' tk' F' N'; (try dsimp only [PySem.W.LenBack]); (try (refine ⟨⟨by omega, by omega⟩, ?_⟩))))
local macro_rules | `(tactic| walk_at "call ref") => `(tactic| (k_here; (with_reducible show wpAny _ _ (call (Value.ref 78) _) _ _ _); k_dflt (refine' keys_G (n := 3) ?cx ?F ?N ?md ?mx ?mdx ?hd1 ?hf ?hc ?hlt ?lo ?_; (case cx => walk_at "ruc cx"); (case F => k_asm); (case N => k_asm); (case mx => k_mem); (case mdx => k_mem); (case md => k_mem); (case hd1 => assumption); (case hf => assumption); (case hc => assumption); (case hlt => (refine ⟨?_, ?_⟩ <;> omega)); (case lo => assumption)); intro S' h' so' tk' F' N' l1 hSK; (try k_lt l1)))
local macro_rules | `(tactic| walk_at "call ref") => `(tactic| (k_here; (with_reducible show wpAny _ _ (call (Value.ref 106) _) _ _ _); k_dflt (refine' walked_G (n := 3) ?cx ?F ?N ?mx ?mdx ?_; (case cx => walk_at "ruc cx"); (case F => k_asm); (case N => k_asm); (case mx => k_mem); (case mdx => k_mem)); intro h' tk' F' N'))
local macro_rules | `(tactic| walk_at "call builtin:len") => `(tactic| (k_here; (with_reducible show wpAny _ _ (call (Value.builtin "len") [Value.ref _]) _ _ _); k_dflt (refine' kst_len ?k1 ?k2 ?k3 ?k4 ?_; (case k1 => k_asm); (case k2 => k_mem); (case k3 => (first | assumption | exact len_snoc _ _ | exact len_cons_snoc _ _ _)); (case k4 => omega); k_whole)))
local macro_rules | `(tactic| walk_at "compareOp NotEq ref ref") => `(tactic| (k_here; k_dflt (refine' ne_ints_same ?N ?ma ?mb ?ia ?ib ?hu ?_; (case N => k_asm); (case ma => k_mem); (case mb => k_mem); (case ia => assumption); (case ib => assumption); (case hu => (first | omega | (dsimp only [Ar]; omega))))))
local macro_rules | `(tactic| walk_at "compareOp NotEq ref ref") => `(tactic| (k_here; k_dflt (refine' ne_sets_N ?N ?ma ?mb ?sa ?sb ?hl ?hu ?_; (case N => k_asm); (case ma => k_mem); (case mb => k_mem); (case sa => assumption); (case sb => assumption); (case hl => assumption); (case hu => (dsimp only [Ar]; omega)))))
local macro_rules | `(tactic| walk_at "eval SetComp") => `(tactic| (refine stop_here ?_))
local macro_rules | `(tactic| walk_at "ruc compS") => `(tactic| ((show wpAny _ _ _ _ _ _); k_dflt (refine' SetComp_S (cl := []) ?F ?a1 ?a2 ?a3 ?a4 ?a5 ?_ ?a6; (case F => k_asm); (case a1 => with_unfolding_all rfl); (case a2 => decide); (case a3 => rfl); (case a4 => decide); (case a5 => rfl); (case a6 => intro _; rfl)); walk1; (refine' CompSrcS.ledger ?a1 ?a2 ?a3 ?a4 ?a5 ?_; (case a1 => rfl); (case a2 => k_asm); (case a3 => k_asm); (case a4 => k_mem); (case a5 => assumption); intro g')))
local macro_rules | `(tactic| walk_at "execs cons") => `(tactic| ((with_reducible show wpAny _ _ (execs (Stmt.If (Expr.BoolOp _ _ _) _ _ _ :: Stmt.If (Expr.BoolOp _ _ _) _ _ _ :: []) _) _ _ _); (refine stop_here ?_)))
local macro_rules | `(tactic| walk_at "exec Assign cons ListComp") => `(tactic| (refine stop_here ?_))
local macro_rules | `(tactic| walk_at "eval ListComp") => `(tactic| (refine stop_here ?_))
local macro_rules | `(tactic| walk_at "ruc compU") => `(tactic| ((show wpAny _ _ _ _ _ _); k_dflt (refine' LCg.ListComp_U ?F ?a1 ?a2 ?a3 ?a4 ?a5 ?_ ?a6; (case F => k_asm); (case a1 => with_unfolding_all rfl); (case a2 => decide); (case a3 => rfl); (case a4 => decide); (case a5 => rfl); (case a6 => intro _; rfl)); walk1; (refine' LCg.CompSrc.ledger ?a1 ?a2 ?a3 ?a4 ?a5 ?_; (case a1 => rfl); (case a2 => k_asm); (case a3 => k_asm); (case a4 => k_mem); (case a5 => assumption); intro g')))
local macro_rules | `(tactic| walk_at "call ref") => `(tactic| (k_here; (with_reducible show wpAny _ _ (call (Value.ref 43) _) _ _ _); k_dflt (refine' setitem_new_G (n := 3) ?cx ?F ?N ?U1 ?mx ?mdx ?hd1 ?hf ?hk ?hc ?hfit ?hlt ?lo ?_; (case cx => walk_at "ruc cx"); (case F => k_asm); (case N => k_asm); (case mx => k_mem); (case mdx => k_mem); (case U1 => k_updF); (case hd1 => assumption); (case hf => assumption); (case hk => assumption); (case hc => assumption); (case hfit => assumption); (case hlt => ((repeat' refine And.intro ?_ ?_) <;> omega)); (case lo => assumption)); intro h' o' kvs' tk' F' N' hdN hfN; (try dsimp only at N')))
local macro_rules | `(tactic| walk_at "call ref") => `(tactic| (k_here; (with_reducible show wpAny _ _ (call (Value.ref 43) _) _ _ _); k_dflt (refine' setitem_old_G (n := 3) ?cx ?F ?N ?U1 ?U2 ?mx ?mdx ?mc ?hd1 ?hf ?hk ?hc ?hI ?hT ?hoT ?hlt ?lo ?hD ?hs ?_; (case cx => walk_at "ruc cx"); (case F => k_asm); (case N => k_asm); (case mx => k_mem); (case mdx => k_mem); (case hD => assumption); (case U1 => k_updF); (case U2 => (intro o'; (try dsimp only); k_updF)); (case mc => k_mem); (case hoT => assumption); (case hI => assumption); (case hd1 => assumption); (case hf => assumption); (case hk => assumption); (case hc => assumption); (case hT => omega); (case hlt => ((repeat' refine And.intro ?_ ?_) <;> omega)); (case lo => assumption); (case hs => (intro p hp'; refine ⟨by k_mem, ?_, ?_⟩ <;> (revert p; assumption)))); intro h' o' kvs' vsT' nT' tk' F' N' hdN hfN hTN; (try dsimp only at N')))
local macro_rules | `(tactic| walk_at "call ref") => `(tactic| (k_here; (with_reducible show wpAny _ _ (call (Value.ref 43) _) _ _ _); k_dflt (refine' setitem_full_G (n := 3) ?cx ?F ?N ?U1 ?U2 ?mx ?mdx ?mc ?hd1 ?hf ?hk ?hc ?hfull ?hfst ?hI ?hT ?hoT ?hlt ?lo ?hD ?hs ?_; (case cx => walk_at "ruc cx"); (case F => k_asm); (case N => k_asm); (case mx => k_mem); (case mdx => k_mem); (case hD => assumption); (case U1 => k_updF); (case U2 => (intro o'; (try dsimp only); k_updF)); (case mc => k_mem); (case hoT => assumption); (case hI => assumption); (case hd1 => assumption); (case hf => assumption); (case hk => assumption); (case hc => assumption); (case hfst => assumption); (case hfull => assumption); (case hT => omega); (case hlt => ((repeat' refine And.intro ?_ ?_) <;> omega)); (case lo => assumption); (case hs => (intro p hp'; refine ⟨by k_mem, ?_, ?_⟩ <;> (revert p; assumption)))); intro h' o' kvs' vsT' nT' tk' F' N' hdN hfN hTN; (try dsimp only at N')))
local macro_rules | `(tactic| walk_at "call ref") => `(tactic| (k_here; (with_reducible show wpAny _ _ (call (Value.ref 99) _) _ _ _); k_dflt (refine' taken_hit_G (n := 3) ?cx ?F ?N ?U1 ?U2 ?mx ?mdx ?mc ?hd1 ?hf ?hk ?hc ?hI ?hT ?hoT ?hlt ?lo ?hD ?hs ?_; (case cx => walk_at "ruc cx"); (case F => k_asm); (case N => k_asm); (case mx => k_mem); (case mdx => k_mem); (case hD => assumption); (case U1 => k_updF); (case U2 => (intro o'; (try dsimp only); k_updF)); (case mc => k_mem); (case hoT => assumption); (case hI => assumption); (case hd1 => assumption); (case hf => assumption); (case hk => assumption); (case hc => assumption); (case hT => omega); (case hlt => ((repeat' refine And.intro ?_ ?_) <;> omega)); (case lo => assumption); (case hs => (intro p hp'; refine ⟨by k_mem, ?_, ?_⟩ <;> (revert p; assumption)))); intro h' o' kvs' vsT' nT' tk' F' N' hdN hfN hTN; (try dsimp only at N')))
local macro_rules | `(tactic| walk_at "call ref") => `(tactic| (k_here; (with_reducible show wpAny _ _ (call (Value.ref 99) _) _ _ _); k_dflt (refine' taken_miss_G (n := 3) ?cx ?F ?N ?md ?mx ?mdx ?hd1 ?hf ?hk ?hc ?hlt ?lo ?_; (case cx => walk_at "ruc cx"); (case F => k_asm); (case N => k_asm); (case mx => k_mem); (case mdx => k_mem); (case md => k_mem); (case hd1 => assumption); (case hf => assumption); (case hk => assumption); (case hc => assumption); (case hlt => ((repeat' refine And.intro ?_ ?_) <;> omega)); (case lo => assumption)); intro h' tk' F' N'))
local macro_rules | `(tactic| walk_at "call ref") => `(tactic| (k_here; (with_reducible show wpAny _ _ (call (Value.ref 92) _) _ _ _); k_dflt (refine' got_miss_G (n := 3) ?cx ?F ?N ?md ?mx ?mdx ?hd1 ?hf ?hk ?hc ?hlt ?lo ?_; (case cx => walk_at "ruc cx"); (case F => k_asm); (case N => k_asm); (case mx => k_mem); (case mdx => k_mem); (case md => k_mem); (case hd1 => assumption); (case hf => assumption); (case hk => assumption); (case hc => assumption); (case hlt => ((repeat' refine And.intro ?_ ?_) <;> omega)); (case lo => assumption)); intro B' nB' h' tk' F' N' l1; (try k_lt l1)))
local macro_rules | `(tactic| walk_at "call ref") => `(tactic| (k_here; (with_reducible show wpAny _ _ (call (Value.ref 92) _) _ _ _); k_dflt (refine' got_hit_G (n := 3) ?cx ?F ?N ?U1 ?mx ?mdx ?hd1 ?hf ?hk ?hc ?hlt ?lo ?_; (case cx => walk_at "ruc cx"); (case F => k_asm); (case N => k_asm); (case mx => k_mem); (case mdx => k_mem); (case U1 => k_updF); (case hd1 => assumption); (case hf => assumption); (case hk => assumption); (case hc => assumption); (case hlt => ((repeat' refine And.intro ?_ ?_) <;> omega)); (case lo => assumption)); intro B' nB' h' o' kvs' t' tk' F' N' l1 hdN hfN; (try dsimp only at N'); (try k_lt l1)))
local macro_rules | `(tactic| walk_at "call ref") => `(tactic| (k_here; (with_reducible show wpAny _ _ (call (Value.ref 71) _) _ _ _); k_dflt (refine' clear_G (n := 3) ?cx ?F ?N ?U1 ?U2 ?mx ?mdx ?mc ?hd1 ?hf ?hc ?hI ?hT ?hoT ?hlt ?lo ?hD ?hs ?_; (case cx => walk_at "ruc cx"); (case F => k_asm); (case N => k_asm); (case mx => k_mem); (case mdx => k_mem); (case hD => assumption); (case U1 => k_updF); (case U2 => (intro o'; (try dsimp only); k_updF)); (case mc => k_mem); (case hoT => assumption); (case hI => assumption); (case hd1 => assumption); (case hf => assumption); (case hc => assumption); (case hT => omega); (case hlt => ((repeat' refine And.intro ?_ ?_) <;> omega)); (case lo => assumption); (case hs => (intro p hp'; refine ⟨by k_mem, ?_, ?_⟩ <;> (revert p; assumption)))); intro h' o' kvs' vsT' nT' tk' F' N' hdN hfN hTN; (try dsimp only at N')))
local macro_rules | `(tactic| walk_at "inplaceOp Add ref") => `(tactic| (k_here; k_dflt (refine' iadd_lists ?F ?N ?U ?mb ?hz ?_; (case F => k_asm); (case N => k_asm); (case U => k_updF); (case mb => k_mem); (case hz => omega)); intro h' n' F' N'; (try dsimp only at N')))
local macro_rules | `(tactic| walk_at "binaryOp Add ref ref") => `(tactic| (k_here; k_dflt (refine' add_listsN ?F ?N ?ma ?mb ?hz ?_; (case F => k_asm); (case N => k_asm); (case ma => k_mem); (case mb => k_mem); (case hz => (simp only [List.length_cons, List.length_nil] <;> omega))); intro D' h' F' N' l1; (try k_lt l1)))
local macro_rules | `(tactic| walk_at "ite") => `(tactic| first | refine ite_pos (by assumption) ?_ | refine ite_neg (by assumption) ?_ | refine ite_pos (by omega) ?_ | refine ite_neg (by omega) ?_)
local macro_rules | `(tactic| walk_at "subscriptTail") => `(tactic| (k_here; (with_reducible show wpAny _ _ (subscriptTail _ _ (Value.ref _) (Value.int 0 _)) _ _ _); k_dflt (refine' head_item ?N ?hm ?_ ?hs ?hg; (case N => k_asm); (case hm => k_mem); (case hs => with_unfolding_all rfl); (case hg => (intro _; with_unfolding_all rfl)))))
local macro_rules | `(tactic| walk_at "subscriptTail Name Slice ref ref") => `(tactic| (k_here; k_dflt (refine' tail_slice ?F ?N ?hm ?hz ?_ ?hs ?ht; (case F => k_asm); (case N => k_asm); (case hm => k_mem); (case hz => (simp only [List.length_cons, List.length_append, List.length_nil]; omega)); (case hs => with_unfolding_all rfl); (case ht => (intro _; with_unfolding_all rfl))); intro D' h' F' N' l1; (try k_lt l1)))
local macro_rules | `(tactic| walk_at "call builtin:list.append") => `(tactic| (k_here; k_dflt (refine' append_K ?k1 ?k2 ?k3 ?_ ?z; (case k1 => k_asm); (case k2 => k_asm); (case k3 => k_upd); (case z => (rw [PySem.sizeLine_eq]; simp only [List.length_append, List.length_cons, List.length_nil, List.size_toArray]; omega)); k_whole); intro h' F' N'; (try k_sweep)))
local macro_rules | `(tactic| k_ne) => `(tactic| (refine neN ?_; (try dsimp only); first | assumption | exact Ne.symm (by assumption) | omega))
section
variable {w : World} {A₀ : Around} {h₀ : Heap} {L x dx d tL DU P NU I fa R H : Addr} {loose : List Str} {mean : ExcName → Option Value} {u mg mb : Str → Option Value} {D U n : Nat}
  {g : Option (List Code)} {s : Shared} {E : Value → Shared → Prop} {Q : Flow → Shared → Prop} {dv : Value} {t1 t2 t3 ts tp tk1 tk2 : Tok} {nn nd np nT nw nr nh : Nat} {o oT oK oC oI : Obj} {kvs : List (Int × Value)} {c : List (Int × Int)} {size pl kd key : Int} {sil : Bool} {tail : List (Addr × Obj)}
  {dvs pvs vsT ws rs hs : List Value} {due told : List Int}
theorem mput_hit (cx : Cx 10 w A₀ h₀ h₀ [] (lawEnv L fa) L loose mean mg mb D U)
    (F : Fr h₀ L s.heap (fun y => if y = Str.ofString "rest" then some (.ref R) else if y = Str.ofString "held" then some (.ref H) else if y = Str.ofString "kind" then some (.int kd tk1) else if y = Str.ofString "place" then some (.int pl tp) else if y = Str.ofString "due" then some (.ref DU) else if y = Str.ofString "pairs" then some (.ref P) else if y = Str.ofString "silent" then some (.bool sil) else if y = Str.ofString "size" then some (.int size ts) else if y = Str.ofString "numbers" then some (.ref NU) else u y))
    (N : News h₀ L s.heap ((R, W.listOf rs.toArray nr) :: (H, W.listOf hs.toArray nh) :: (I, oI) :: (DU, W.listOf dvs.toArray nd) :: (P, W.listOf pvs.toArray np) :: (d, o) :: (x, instObj 81 dx) :: (dx, selfDict w t1 t2 t3 (.int size ts) dv d nn) :: (tL, W.listOf vsT.toArray nT) :: (NU, W.listOf ws.toArray nw) :: (L + 1 + 1 + 1, oT) :: (L + 1 + 1, oK) :: (L + 1, oC) :: tail))
    (hord : @LT.lt Nat _ (L + 1 + 1 + 1) NU ∧ @LT.lt Nat _ NU tL ∧ @LT.lt Nat _ tL dx ∧ @LT.lt Nat _ dx x ∧ @LT.lt Nat _ x d ∧ @LT.lt Nat _ d DU ∧ @LT.lt Nat _ DU I ∧ @Ne Nat P (L + 1 + 1) ∧ @Ne Nat P d ∧ @Ne Nat P tL ∧ @Ne Nat P DU ∧ @Ne Nat P I)
    (hoT : oT.data = .cell (some (.ref tL))) (hoC : oC.data = .cell (some (.ref x))) (hoK : oK.data = .cell (some (.int key tk2)))
    (hd1 : o.IsDictOf (PySem.intKind prg w) kvs) (hf : PyProof.V.FlatPairs PyData.int kvs (kdfD c)) (hc : c.length ≤ 100) (lo : (d == sysModules) = false)
    (hdue : IntsAre dvs due) (hduel : due.length ≤ 400) (htold : IntsAre vsT told) (htd : told = if sil then [] else due) (hp : PairsIn tail pvs c)
    (hD : DispS sil dv tL (L + 1 + 1 + 1) tail) (hofK : ∀ p ∈ tail, p.1 ≠ L + 1 + 1) (hofd : ∀ p ∈ tail, p.1 ≠ d) (hofT : ∀ p ∈ tail, p.1 ≠ tL) (hofU : ∀ p ∈ tail, p.1 ≠ DU) (hofI : ∀ p ∈ tail, p.1 ≠ I)
    (hHo : Off H L d tL DU I P) (hRo : Off R L d tL DU I P) (hRH : @Ne Nat R H) (hpl0 : 0 ≤ pl)
    (hrs : PairsIn tail rs (c.filter fun q => q.1 != key)) (hhs : PairsIn tail hs (c.filter fun q => q.1 == key)) (gd : Good c size) (hk0 : 0 ≤ key) (hk5 : key < 5) (hsz : size ≤ 4)
    (hkd : ([0, 2, 3, 4].any fun x => x == kd) = true) (hk : kdfHas c key = true)
    (h : ∀ h' tk' P' pvs' np' o' kvs' dvs' nd' vsT' nT' extra (u' : Str → Option Value), Fr h₀ L h' (fun y => if y = Str.ofString "due" then some (.ref DU) else if y = Str.ofString "pairs" then some (.ref P') else if y = Str.ofString "silent" then some (.bool sil) else if y = Str.ofString "size" then some (.int size ts) else if y = Str.ofString "numbers" then some (.ref NU) else u' y) →
      News h₀ L h' ((I, oI) :: (DU, W.listOf dvs'.toArray nd') :: (P', W.listOf pvs'.toArray np') :: (d, o') :: (x, instObj 81 dx) :: (dx, selfDict w t1 t2 t3 (.int size ts) dv d nn) :: (tL, W.listOf vsT'.toArray nT') :: (NU, W.listOf ws.toArray nw) :: (L + 1 + 1 + 1, oT) :: (L + 1 + 1, oK) :: (L + 1, oC) :: (extra ++ tail)) → PairsIn (extra ++ tail) pvs' ((c.filter fun q => q.1 != key) ++ [(key, pl.fdiv 2 - 1)]) → o'.IsDictOf (PySem.intKind prg w) kvs' → PyProof.V.FlatPairs PyData.int kvs' (kdfD ((c.filter fun q => q.1 != key) ++ [(key, pl.fdiv 2 - 1)])) → IntsAre dvs' (due ++ [kdfLook c key 0]) → IntsAre vsT' (if sil then [] else due ++ [kdfLook c key 0]) →
      (∀ p ∈ extra, p.1 ≠ L + 1 + 1 ∧ p.1 ≠ d ∧ p.1 ≠ tL ∧ p.1 ≠ DU ∧ p.1 ≠ I) → @Ne Nat P' (L + 1 + 1) → @Ne Nat P' d → @Ne Nat P' tL → @Ne Nat P' DU → @Ne Nat P' I →
      wpAny (model prg w) (Ar D U g (lawEnv L fa) []) (execs checks (lawEnv L fa)) Q E { s with heap := h', toks := tk' })
    : wpAny (model prg w) (Ar D U g (lawEnv L fa) []) (execs loopRest (lawEnv L fa)) Q E s := by
  obtain ⟨B, X, T, hf1, hk1, hDD, hU⟩ := cx
  obtain ⟨oH1, oH2, oH3, oH4, oH5, oH6⟩ := hHo
  obtain ⟨oR1, oR2, oR3, oR4, oR5, oR6⟩ := hRo
  obtain ⟨q1, q2, q3, q4, q5, q6, q7, q8, q9, q10, q11, q12⟩ := hord
  have hpl := hp.length
  have hrl := hrs.length
  have hhl := hhs.length
  have hss := gd.sz
  have htl : told.length ≤ 400 := by
    rw [htd]
    cases sil with
    | true => exact Nat.zero_le _
    | false => exact hduel
  have hz : ∀ ys : List Value, ys.length ≤ 100 → ys.toArray.size ≤ sizeLine := fun ys hy => by rw [List.size_toArray, PySem.sizeLine_eq]; omega
  have hlr := List.length_filter_le (fun q : Int × Int => q.1 != key) c
  have hlh := List.length_filter_le (fun q : Int × Int => q.1 == key) c
  have hz1 := hz rs (by omega)
  have hz2 := hz hs (by omega)
  have hz3 := hz pvs (by omega)
  dsimp only [lawEnv, loopRest, loopBody, List.drop, lawBody, lawScope, lawStmt, PySem.Challenge.pw_ew0039_01] at hf1 hk1 ⊢
  w_on
  have hfh := flt_hit gd.nd hk
  rw [hfh] at hhs
  have hhs0 := hhs
  cases hhs with
  | cons hm hr =>
  cases hr
  w_strict k_steps
  w_strict walk_at "ruc compU"
  refine' pm_rest hhs0 (fun t' k' v' t1' t2' nt' I' oI' C' oC' D' m' ys' h' tk' E' hm' hC' hx' F' N' off' ne' => ?_) (fun ys' hys' => ?_)
  · w_strict k_steps
    exact LCg.CompEnd.intro F' N' _ (fun p hp => hp) off' (Or.inr ⟨W.listOf [Value.ref _].toArray nh, by k_mem, rfl, nh, rfl⟩) ⟨rfl, _, rfl⟩
  have hyl : ys'.length ≤ 100 := by rw [hys'.length, List.length_map]; (first | omega | (simp only [List.length_cons, List.length_nil]; omega))
  have hdl := hdue.length
  intro DD hD0 tkD FD ND oD
  have oDU : @Ne Nat DD DU := Ne.symm (off1_mem oD (DU, W.listOf dvs.toArray nd) (by k_mem))
  w_strict k_steps
  (show wpAny _ _ _ _ _ _)
  rename Fr h₀ L _ _ => kF
  rename News h₀ L _ _ => kN
  rename Obj.IsDictOf _ _ _ => hdN
  rename PyProof.V.FlatPairs _ _ _ => hfN
  rename Told sil _ told _ => hTN
  have hT := mem_of kN (p := (_, pairObj key (pl.fdiv 2 - 1) _ _ _)) (by k_mem)
  have hP := mem_of kN (p := (_, W.listOf (rs ++ [Value.ref _]).toArray 0)) (by k_mem)
  refine' h _ _ (elt hP).1 (rs ++ [Value.ref (elt hT).1]) 0 _ _ _ _ _ _ [elt hT] _ (canonF kF rfl rfl rfl rfl rfl) ?nn ((hrs.mono fun p hp => .tail _ hp).append (.cons (.head _) .nil)) hdN (by rw [← put_del]; exact hfN) (hdue.append hys') (told_up hTN htd) (apart5 ?aa) ?b1 ?b2 ?b3 ?b4 ?b5
  case nn => (intro p hp; (repeat (rcases List.mem_cons.mp hp with rfl | hp; (focus exact kN _ (by k_mem)))); exact kN _ (by k_mem))
  case aa => (try dsimp only [elt]); ((repeat' refine And.intro ?_ ?_) <;> (first | assumption | omega))
  case b1 => (try dsimp only [elt]); (first | assumption | omega)
  case b2 => (try dsimp only [elt]); (first | assumption | omega)
  case b3 => (try dsimp only [elt]); (first | assumption | omega)
  case b4 => (try dsimp only [elt]); (first | assumption | omega)
  case b5 => (try dsimp only [elt]); (first | assumption | omega)
end
end Ruc
end
section
open PySem PySem.W PySem.Calls PySem.Spec PyProof.Rows
set_option maxHeartbeats 1500000
namespace Ruc
theorem fillRu13 : PySem.Challenge.rw_ew0039_01.row.prog = PySem.Challenge.rw_ew0039_01.row.prog ∧ hd.heap_39 = hd.heap_39 := by k_fill; exact ⟨rfl, rfl⟩
local macro_rules | `(tactic| k_room) => `(tactic| (simp only [depth_under_make, depth_under_kw, depth_in1, depth_deeper, depth_caller, Ar]; omega))
local macro_rules | `(tactic| k_mem) => `(tactic| assumption)
local macro_rules | `(tactic| k_all) => `(tactic| assumption)
local macro_rules | `(tactic| walk_at "ruc enter") => `(tactic| (refine wpAny_call ?_; (refine' code_def ?B ?F ?X ?N ?T rfl ?f1 ?f2 ?k6 ?k7 ?k8 ?k9 ?kB ?_ ?c2 ?c3 ?c4 ?c5; (case B => assumption); (case F => assumption); (case X => assumption); (case N => assumption); (case T => assumption); (case f1 => assumption); (case f2 => assumption); (case k6 => k_is); (case k7 => k_is); (case k8 => k_room); (case k9 => exact BindsTo.of_eq rfl); (case c5 => decide); (case kB => exact locs rfl); (case c2 => exact rfl); (case c3 => exact rfl); (case c4 => exact rfl); k_whole; intro g' L' h' FG' F' N' B' X' T'; (try dsimp only); (try k_lift B'); (try k_fold))))
local macro_rules | `(tactic| walk_at "ruc cx") => `(tactic| exact ⟨by assumption, by assumption, by assumption, rfl, rfl, by (first | omega | (dsimp only [Ar]; omega) | (simp only [depth_deeper, depth_in1, Around.deeper_units, Around.in1_units, Ar]; omega)), by (first | omega | (dsimp only [Ar]; omega) | (simp only [depth_deeper, depth_in1, Around.deeper_units, Around.in1_units, Ar]; omega))⟩)
local macro_rules | `(tactic| walk_at "call ref") => `(tactic| (k_here; (with_reducible show wpAny _ _ (call (Value.ref 57) _) _ _ _); k_dflt (refine' len_G (n := 3) ?cx ?F ?N ?md ?mx ?mdx ?hd1 ?hf ?hc ?lo ?_; (case cx => walk_at "ruc cx"); (case F => k_asm); (case N => k_asm); (case mx => k_mem); (case mdx => k_mem); (case md => k_mem); (case hd1 => assumption); (case hf => assumption); (case hc => assumption); (case lo => assumption)); intro h' t' tk' F' N'; (try dsimp only [PySem.W.LenBack]); (try (refine ⟨⟨by omega, by omega⟩, ?_⟩))))
local macro_rules | `(tactic| walk_at "call ref") => `(tactic| (k_here; (with_reducible show wpAny _ _ (call (Value.ref 78) _) _ _ _); k_dflt (refine' keys_G (n := 3) ?cx ?F ?N ?md ?mx ?mdx ?hd1 ?hf ?hc ?hlt ?lo ?_; (case cx => walk_at "ruc cx"); (case F => k_asm); (case N => k_asm); (case mx => k_mem); (case mdx => k_mem); (case md => k_mem); (case hd1 => assumption); (case hf => assumption); (case hc => assumption); (case hlt => (refine ⟨?_, ?_⟩ <;> omega)); (case lo => assumption)); intro S' h' so' tk' F' N' l1 hSK; (try k_lt l1)))
local macro_rules | `(tactic| walk_at "call ref") => `(tactic| (k_here; (with_reducible show wpAny _ _ (call (Value.ref 106) _) _ _ _); k_dflt (refine' walked_G (n := 3) ?cx ?F ?N ?mx ?mdx ?_; (case cx => walk_at "ruc cx"); (case F => k_asm); (case N => k_asm); (case mx => k_mem); (case mdx => k_mem)); intro h' tk' F' N'))
local macro_rules | `(tactic| walk_at "call builtin:len") => `(tactic| (k_here; (with_reducible show wpAny _ _ (call (Value.builtin "len") [Value.ref _]) _ _ _); k_dflt (refine' kst_len ?k1 ?k2 ?k3 ?k4 ?_; (case k1 => k_asm); (case k2 => k_mem); (case k3 => (first | assumption | exact len_snoc _ _ | exact len_cons_snoc _ _ _)); (case k4 => omega); k_whole)))
local macro_rules | `(tactic| walk_at "compareOp NotEq ref ref") => `(tactic| (k_here; k_dflt (refine' ne_ints_same ?N ?ma ?mb ?ia ?ib ?hu ?_; (case N => k_asm); (case ma => k_mem); (case mb => k_mem); (case ia => assumption); (case ib => assumption); (case hu => (first | omega | (dsimp only [Ar]; omega))))))
local macro_rules | `(tactic| walk_at "compareOp NotEq ref ref") => `(tactic| (k_here; k_dflt (refine' ne_sets_N ?N ?ma ?mb ?sa ?sb ?hl ?hu ?_; (case N => k_asm); (case ma => k_mem); (case mb => k_mem); (case sa => assumption); (case sb => assumption); (case hl => assumption); (case hu => (dsimp only [Ar]; omega)))))
local macro_rules | `(tactic| walk_at "eval SetComp") => `(tactic| (refine stop_here ?_))
local macro_rules | `(tactic| walk_at "ruc compS") => `(tactic| ((show wpAny _ _ _ _ _ _); k_dflt (refine' SetComp_S (cl := []) ?F ?a1 ?a2 ?a3 ?a4 ?a5 ?_ ?a6; (case F => k_asm); (case a1 => with_unfolding_all rfl); (case a2 => decide); (case a3 => rfl); (case a4 => decide); (case a5 => rfl); (case a6 => intro _; rfl)); walk1; (refine' CompSrcS.ledger ?a1 ?a2 ?a3 ?a4 ?a5 ?_; (case a1 => rfl); (case a2 => k_asm); (case a3 => k_asm); (case a4 => k_mem); (case a5 => assumption); intro g')))
local macro_rules | `(tactic| walk_at "execs cons") => `(tactic| ((with_reducible show wpAny _ _ (execs (Stmt.If (Expr.BoolOp _ _ _) _ _ _ :: Stmt.If (Expr.BoolOp _ _ _) _ _ _ :: []) _) _ _ _); (refine stop_here ?_)))
local macro_rules | `(tactic| walk_at "exec Assign cons ListComp") => `(tactic| (refine stop_here ?_))
local macro_rules | `(tactic| walk_at "eval ListComp") => `(tactic| (refine stop_here ?_))
local macro_rules | `(tactic| walk_at "ruc compU") => `(tactic| ((show wpAny _ _ _ _ _ _); k_dflt (refine' LCg.ListComp_U ?F ?a1 ?a2 ?a3 ?a4 ?a5 ?_ ?a6; (case F => k_asm); (case a1 => with_unfolding_all rfl); (case a2 => decide); (case a3 => rfl); (case a4 => decide); (case a5 => rfl); (case a6 => intro _; rfl)); walk1; (refine' LCg.CompSrc.ledger ?a1 ?a2 ?a3 ?a4 ?a5 ?_; (case a1 => rfl); (case a2 => k_asm); (case a3 => k_asm); (case a4 => k_mem); (case a5 => assumption); intro g')))
local macro_rules | `(tactic| walk_at "call ref") => `(tactic| (k_here; (with_reducible show wpAny _ _ (call (Value.ref 43) _) _ _ _); k_dflt (refine' setitem_new_G (n := 3) ?cx ?F ?N ?U1 ?mx ?mdx ?hd1 ?hf ?hk ?hc ?hfit ?hlt ?lo ?_; (case cx => walk_at "ruc cx"); (case F => k_asm); (case N => k_asm); (case mx => k_mem); (case mdx => k_mem); (case U1 => k_updF); (case hd1 => assumption); (case hf => assumption); (case hk => assumption); (case hc => assumption); (case hfit => assumption); (case hlt => ((repeat' refine And.intro ?_ ?_) <;> omega)); (case lo => assumption)); intro h' o' kvs' tk' F' N' hdN hfN; (try dsimp only at N')))
local macro_rules | `(tactic| walk_at "call ref") => `(tactic| (k_here; (with_reducible show wpAny _ _ (call (Value.ref 43) _) _ _ _); k_dflt (refine' setitem_old_G (n := 3) ?cx ?F ?N ?U1 ?U2 ?mx ?mdx ?mc ?hd1 ?hf ?hk ?hc ?hI ?hT ?hoT ?hlt ?lo ?hD ?hs ?_; (case cx => walk_at "ruc cx"); (case F => k_asm); (case N => k_asm); (case mx => k_mem); (case mdx => k_mem); (case hD => assumption); (case U1 => k_updF); (case U2 => (intro o'; (try dsimp only); k_updF)); (case mc => k_mem); (case hoT => assumption); (case hI => assumption); (case hd1 => assumption); (case hf => assumption); (case hk => assumption); (case hc => assumption); (case hT => omega); (case hlt => ((repeat' refine And.intro ?_ ?_) <;> omega)); (case lo => assumption); (case hs => (intro p hp'; refine ⟨by k_mem, ?_, ?_⟩ <;> (revert p; assumption)))); intro h' o' kvs' vsT' nT' tk' F' N' hdN hfN hTN; (try dsimp only at N')))
local macro_rules | `(tactic| walk_at "call ref") => `(tactic| (k_here; (with_reducible show wpAny _ _ (call (Value.ref 43) _) _ _ _); k_dflt (refine' setitem_full_G (n := 3) ?cx ?F ?N ?U1 ?U2 ?mx ?mdx ?mc ?hd1 ?hf ?hk ?hc ?hfull ?hfst ?hI ?hT ?hoT ?hlt ?lo ?hD ?hs ?_; (case cx => walk_at "ruc cx"); (case F => k_asm); (case N => k_asm); (case mx => k_mem); (case mdx => k_mem); (case hD => assumption); (case U1 => k_updF); (case U2 => (intro o'; (try dsimp only); k_updF)); (case mc => k_mem); (case hoT => assumption); (case hI => assumption); (case hd1 => assumption); (case hf => assumption); (case hk => assumption); (case hc => assumption); (case hfst => assumption); (case hfull => assumption); (case hT => omega); (case hlt => ((repeat' refine And.intro ?_ ?_) <;> omega)); (case lo => assumption); (case hs => (intro p hp'; refine ⟨by k_mem, ?_, ?_⟩ <;> (revert p; assumption)))); intro h' o' kvs' vsT' nT' tk' F' N' hdN hfN hTN; (try dsimp only at N')))
local macro_rules | `(tactic| walk_at "call ref") => `(tactic| (k_here; (with_reducible show wpAny _ _ (call (Value.ref 99) _) _ _ _); k_dflt (refine' taken_hit_G (n := 3) ?cx ?F ?N ?U1 ?U2 ?mx ?mdx ?mc ?hd1 ?hf ?hk ?hc ?hI ?hT ?hoT ?hlt ?lo ?hD ?hs ?_; (case cx => walk_at "ruc cx"); (case F => k_asm); (case N => k_asm); (case mx => k_mem); (case mdx => k_mem); (case hD => assumption); (case U1 => k_updF); (case U2 => (intro o'; (try dsimp only); k_updF)); (case mc => k_mem); (case hoT => assumption); (case hI => assumption); (case hd1 => assumption); (case hf => assumption); (case hk => assumption); (case hc => assumption); (case hT => omega); (case hlt => ((repeat' refine And.intro ?_ ?_) <;> omega)); (case lo => assumption); (case hs => (intro p hp'; refine ⟨by k_mem, ?_, ?_⟩ <;> (revert p; assumption)))); intro h' o' kvs' vsT' nT' tk' F' N' hdN hfN hTN; (try dsimp only at N')))
local macro_rules | `(tactic| walk_at "call ref") => `(tactic| (k_here; (with_reducible show wpAny _ _ (call (Value.ref 99) _) _ _ _); k_dflt (refine' taken_miss_G (n := 3) ?cx ?F ?N ?md ?mx ?mdx ?hd1 ?hf ?hk ?hc ?hlt ?lo ?_; (case cx => walk_at "ruc cx"); (case F => k_asm); (case N => k_asm); (case mx => k_mem); (case mdx => k_mem); (case md => k_mem); (case hd1 => assumption); (case hf => assumption); (case hk => assumption); (case hc => assumption); (case hlt => ((repeat' refine And.intro ?_ ?_) <;> omega)); (case lo => assumption)); intro h' tk' F' N'))
local macro_rules | `(tactic| walk_at "call ref") => `(tactic| (k_here; (with_reducible show wpAny _ _ (call (Value.ref 92) _) _ _ _); k_dflt (refine' got_miss_G (n := 3) ?cx ?F ?N ?md ?mx ?mdx ?hd1 ?hf ?hk ?hc ?hlt ?lo ?_; (case cx => walk_at "ruc cx"); (case F => k_asm); (case N => k_asm); (case mx => k_mem); (case mdx => k_mem); (case md => k_mem); (case hd1 => assumption); (case hf => assumption); (case hk => assumption); (case hc => assumption); (case hlt => ((repeat' refine And.intro ?_ ?_) <;> omega)); (case lo => assumption)); intro B' nB' h' tk' F' N' l1; (try k_lt l1)))
local macro_rules | `(tactic| walk_at "call ref") => `(tactic| (k_here; (with_reducible show wpAny _ _ (call (Value.ref 92) _) _ _ _); k_dflt (refine' got_hit_G (n := 3) ?cx ?F ?N ?U1 ?mx ?mdx ?hd1 ?hf ?hk ?hc ?hlt ?lo ?_; (case cx => walk_at "ruc cx"); (case F => k_asm); (case N => k_asm); (case mx => k_mem); (case mdx => k_mem); (case U1 => k_updF); (case hd1 => assumption); (case hf => assumption); (case hk => assumption); (case hc => assumption); (case hlt => ((repeat' refine And.intro ?_ ?_) <;> omega)); (case lo => assumption)); intro B' nB' h' o' kvs' t' tk' F' N' l1 hdN hfN; (try dsimp only at N'); (try k_lt l1)))
local macro_rules | `(tactic| walk_at "call ref") => `(tactic| (k_here; (with_reducible show wpAny _ _ (call (Value.ref 71) _) _ _ _); k_dflt (refine' clear_G (n := 3) ?cx ?F ?N ?U1 ?U2 ?mx ?mdx ?mc ?hd1 ?hf ?hc ?hI ?hT ?hoT ?hlt ?lo ?hD ?hs ?_; (case cx => walk_at "ruc cx"); (case F => k_asm); (case N => k_asm); (case mx => k_mem); (case mdx => k_mem); (case hD => assumption); (case U1 => k_updF); (case U2 => (intro o'; (try dsimp only); k_updF)); (case mc => k_mem); (case hoT => assumption); (case hI => assumption); (case hd1 => assumption); (case hf => assumption); (case hc => assumption); (case hT => omega); (case hlt => ((repeat' refine And.intro ?_ ?_) <;> omega)); (case lo => assumption); (case hs => (intro p hp'; refine ⟨by k_mem, ?_, ?_⟩ <;> (revert p; assumption)))); intro h' o' kvs' vsT' nT' tk' F' N' hdN hfN hTN; (try dsimp only at N')))
local macro_rules | `(tactic| walk_at "inplaceOp Add ref") => `(tactic| (k_here; k_dflt (refine' iadd_lists ?F ?N ?U ?mb ?hz ?_; (case F => k_asm); (case N => k_asm); (case U => k_updF); (case mb => k_mem); (case hz => omega)); intro h' n' F' N'; (try dsimp only at N')))
local macro_rules | `(tactic| walk_at "binaryOp Add ref ref") => `(tactic| (k_here; k_dflt (refine' add_listsN ?F ?N ?ma ?mb ?hz ?_; (case F => k_asm); (case N => k_asm); (case ma => k_mem); (case mb => k_mem); (case hz => (simp only [List.length_cons, List.length_nil] <;> omega))); intro D' h' F' N' l1; (try k_lt l1)))
local macro_rules | `(tactic| walk_at "ite") => `(tactic| first | refine ite_pos (by assumption) ?_ | refine ite_neg (by assumption) ?_ | refine ite_pos (by omega) ?_ | refine ite_neg (by omega) ?_)
local macro_rules | `(tactic| walk_at "subscriptTail") => `(tactic| (k_here; (with_reducible show wpAny _ _ (subscriptTail _ _ (Value.ref _) (Value.int 0 _)) _ _ _); k_dflt (refine' head_item ?N ?hm ?_ ?hs ?hg; (case N => k_asm); (case hm => k_mem); (case hs => with_unfolding_all rfl); (case hg => (intro _; with_unfolding_all rfl)))))
local macro_rules | `(tactic| walk_at "subscriptTail Name Slice ref ref") => `(tactic| (k_here; k_dflt (refine' tail_slice ?F ?N ?hm ?hz ?_ ?hs ?ht; (case F => k_asm); (case N => k_asm); (case hm => k_mem); (case hz => (simp only [List.length_cons, List.length_append, List.length_nil]; omega)); (case hs => with_unfolding_all rfl); (case ht => (intro _; with_unfolding_all rfl))); intro D' h' F' N' l1; (try k_lt l1)))
local macro_rules | `(tactic| walk_at "call builtin:list.append") => `(tactic| (k_here; k_dflt (refine' append_K ?k1 ?k2 ?k3 ?_ ?z; (case k1 => k_asm); (case k2 => k_asm); (case k3 => k_upd); (case z => (rw [PySem.sizeLine_eq]; simp only [List.length_append, List.length_cons, List.length_nil, List.size_toArray]; omega)); k_whole); intro h' F' N'; (try k_sweep)))
local macro_rules | `(tactic| k_ne) => `(tactic| (refine neN ?_; (try dsimp only); first | assumption | exact Ne.symm (by assumption) | omega))
section
variable {w : World} {A₀ : Around} {h₀ : Heap} {L x dx d tL DU P NU I fa R H : Addr} {loose : List Str} {mean : ExcName → Option Value} {u mg mb : Str → Option Value} {D U n : Nat}
  {g : Option (List Code)} {s : Shared} {E : Value → Shared → Prop} {Q : Flow → Shared → Prop} {dv : Value} {t1 t2 t3 ts tp tk1 tk2 : Tok} {nn nd np nT nw nr nh : Nat} {o oT oK oC oI : Obj} {kvs : List (Int × Value)} {c : List (Int × Int)} {size pl kd key : Int} {sil : Bool} {tail : List (Addr × Obj)}
  {dvs pvs vsT ws rs hs : List Value} {due told : List Int}
theorem mput_new (cx : Cx 10 w A₀ h₀ h₀ [] (lawEnv L fa) L loose mean mg mb D U)
    (F : Fr h₀ L s.heap (fun y => if y = Str.ofString "rest" then some (.ref R) else if y = Str.ofString "held" then some (.ref H) else if y = Str.ofString "kind" then some (.int kd tk1) else if y = Str.ofString "place" then some (.int pl tp) else if y = Str.ofString "due" then some (.ref DU) else if y = Str.ofString "pairs" then some (.ref P) else if y = Str.ofString "silent" then some (.bool sil) else if y = Str.ofString "size" then some (.int size ts) else if y = Str.ofString "numbers" then some (.ref NU) else u y))
    (N : News h₀ L s.heap ((R, W.listOf rs.toArray nr) :: (H, W.listOf hs.toArray nh) :: (I, oI) :: (DU, W.listOf dvs.toArray nd) :: (P, W.listOf pvs.toArray np) :: (d, o) :: (x, instObj 81 dx) :: (dx, selfDict w t1 t2 t3 (.int size ts) dv d nn) :: (tL, W.listOf vsT.toArray nT) :: (NU, W.listOf ws.toArray nw) :: (L + 1 + 1 + 1, oT) :: (L + 1 + 1, oK) :: (L + 1, oC) :: tail))
    (hord : @LT.lt Nat _ (L + 1 + 1 + 1) NU ∧ @LT.lt Nat _ NU tL ∧ @LT.lt Nat _ tL dx ∧ @LT.lt Nat _ dx x ∧ @LT.lt Nat _ x d ∧ @LT.lt Nat _ d DU ∧ @LT.lt Nat _ DU I ∧ @Ne Nat P (L + 1 + 1) ∧ @Ne Nat P d ∧ @Ne Nat P tL ∧ @Ne Nat P DU ∧ @Ne Nat P I)
    (hoT : oT.data = .cell (some (.ref tL))) (hoC : oC.data = .cell (some (.ref x))) (hoK : oK.data = .cell (some (.int key tk2)))
    (hd1 : o.IsDictOf (PySem.intKind prg w) kvs) (hf : PyProof.V.FlatPairs PyData.int kvs (kdfD c)) (hc : c.length ≤ 100) (lo : (d == sysModules) = false)
    (hdue : IntsAre dvs due) (hduel : due.length ≤ 400) (htold : IntsAre vsT told) (htd : told = if sil then [] else due) (hp : PairsIn tail pvs c)
    (hD : DispS sil dv tL (L + 1 + 1 + 1) tail) (hofK : ∀ p ∈ tail, p.1 ≠ L + 1 + 1) (hofd : ∀ p ∈ tail, p.1 ≠ d) (hofT : ∀ p ∈ tail, p.1 ≠ tL) (hofU : ∀ p ∈ tail, p.1 ≠ DU) (hofI : ∀ p ∈ tail, p.1 ≠ I)
    (hHo : Off H L d tL DU I P) (hRo : Off R L d tL DU I P) (hRH : @Ne Nat R H) (hpl0 : 0 ≤ pl)
    (hrs : PairsIn tail rs (c.filter fun q => q.1 != key)) (hhs : PairsIn tail hs (c.filter fun q => q.1 == key)) (gd : Good c size) (hk0 : 0 ≤ key) (hk5 : key < 5) (hsz : size ≤ 4)
    (hkd : ([0, 2, 3, 4].any fun x => x == kd) = true) (hk : kdfHas c key = false) (hfit : ((kdfPut c key (pl.fdiv 2 - 1)).length : Int) ≤ size)
    (h : ∀ h' tk' P' pvs' np' o' kvs' dvs' nd' vsT' nT' extra (u' : Str → Option Value), Fr h₀ L h' (fun y => if y = Str.ofString "due" then some (.ref DU) else if y = Str.ofString "pairs" then some (.ref P') else if y = Str.ofString "silent" then some (.bool sil) else if y = Str.ofString "size" then some (.int size ts) else if y = Str.ofString "numbers" then some (.ref NU) else u' y) →
      News h₀ L h' ((I, oI) :: (DU, W.listOf dvs'.toArray nd') :: (P', W.listOf pvs'.toArray np') :: (d, o') :: (x, instObj 81 dx) :: (dx, selfDict w t1 t2 t3 (.int size ts) dv d nn) :: (tL, W.listOf vsT'.toArray nT') :: (NU, W.listOf ws.toArray nw) :: (L + 1 + 1 + 1, oT) :: (L + 1 + 1, oK) :: (L + 1, oC) :: (extra ++ tail)) → PairsIn (extra ++ tail) pvs' (c ++ [(key, pl.fdiv 2 - 1)]) → o'.IsDictOf (PySem.intKind prg w) kvs' → PyProof.V.FlatPairs PyData.int kvs' (kdfD (c ++ [(key, pl.fdiv 2 - 1)])) → IntsAre dvs' (due) → IntsAre vsT' (if sil then [] else due) →
      (∀ p ∈ extra, p.1 ≠ L + 1 + 1 ∧ p.1 ≠ d ∧ p.1 ≠ tL ∧ p.1 ≠ DU ∧ p.1 ≠ I) → @Ne Nat P' (L + 1 + 1) → @Ne Nat P' d → @Ne Nat P' tL → @Ne Nat P' DU → @Ne Nat P' I →
      wpAny (model prg w) (Ar D U g (lawEnv L fa) []) (execs checks (lawEnv L fa)) Q E { s with heap := h', toks := tk' })
    : wpAny (model prg w) (Ar D U g (lawEnv L fa) []) (execs loopRest (lawEnv L fa)) Q E s := by
  obtain ⟨B, X, T, hf1, hk1, hDD, hU⟩ := cx
  obtain ⟨oH1, oH2, oH3, oH4, oH5, oH6⟩ := hHo
  obtain ⟨oR1, oR2, oR3, oR4, oR5, oR6⟩ := hRo
  obtain ⟨q1, q2, q3, q4, q5, q6, q7, q8, q9, q10, q11, q12⟩ := hord
  have hpl := hp.length
  have hrl := hrs.length
  have hhl := hhs.length
  have hss := gd.sz
  have htl : told.length ≤ 400 := by
    rw [htd]
    cases sil with
    | true => exact Nat.zero_le _
    | false => exact hduel
  have hz : ∀ ys : List Value, ys.length ≤ 100 → ys.toArray.size ≤ sizeLine := fun ys hy => by rw [List.size_toArray, PySem.sizeLine_eq]; omega
  have hlr := List.length_filter_le (fun q : Int × Int => q.1 != key) c
  have hlh := List.length_filter_le (fun q : Int × Int => q.1 == key) c
  have hz1 := hz rs (by omega)
  have hz2 := hz hs (by omega)
  have hz3 := hz pvs (by omega)
  dsimp only [lawEnv, loopRest, loopBody, List.drop, lawBody, lawScope, lawStmt, PySem.Challenge.pw_ew0039_01] at hf1 hk1 ⊢
  w_on
  have hfh := flt_miss hk
  rw [hfh.1] at hhs
  rw [hfh.2] at hrs
  have hhs0 := hhs
  cases hhs
  have hfit2 := hfit
  rw [put_new hk, List.length_append, List.length_singleton] at hfit2
  w_strict k_steps
  w_strict walk_at "ruc compU"
  refine' pm_rest hhs0 (fun t' k' v' t1' t2' nt' I' oI' C' oC' D' m' ys' h' tk' E' hm' hC' hx' F' N' off' ne' => ?_) (fun ys' hys' => ?_)
  · w_strict k_steps
    exact LCg.CompEnd.intro F' N' _ (fun p hp => hp) off' (Or.inr ⟨W.listOf [].toArray nh, by k_mem, rfl, nh, rfl⟩) ⟨rfl, _, rfl⟩
  have hyl : ys'.length ≤ 100 := by rw [hys'.length, List.length_map]; (first | omega | (simp only [List.length_cons, List.length_nil]; omega))
  have hdl := hdue.length
  intro DD hD0 tkD FD ND oD
  have oDU : @Ne Nat DD DU := Ne.symm (off1_mem oD (DU, W.listOf dvs.toArray nd) (by k_mem))
  w_strict k_steps
  all_goals try (exfalso; omega)
  (show wpAny _ _ _ _ _ _)
  rename Fr h₀ L _ _ => kF
  rename News h₀ L _ _ => kN
  rename Obj.IsDictOf _ _ _ => hdN
  rename PyProof.V.FlatPairs _ _ _ => hfN
  have hT := mem_of kN (p := (_, pairObj key (pl.fdiv 2 - 1) _ _ _)) (by k_mem)
  have hP := mem_of kN (p := (_, W.listOf (rs ++ [Value.ref _]).toArray 0)) (by k_mem)
  refine' h _ _ (elt hP).1 (rs ++ [Value.ref (elt hT).1]) 0 _ _ _ _ _ _ [elt hT] _ (canonF kF rfl rfl rfl rfl rfl) ?nn ((hrs.mono fun p hp => .tail _ hp).append (.cons (.head _) .nil)) hdN (by rw [← put_new hk]; exact hfN) (by simpa using hdue.append hys') (told_same htold htd) (apart5 ?aa) ?b1 ?b2 ?b3 ?b4 ?b5
  case nn => (intro p hp; (repeat (rcases List.mem_cons.mp hp with rfl | hp; (focus exact kN _ (by k_mem)))); exact kN _ (by k_mem))
  case aa => (try dsimp only [elt]); ((repeat' refine And.intro ?_ ?_) <;> (first | assumption | omega))
  case b1 => (try dsimp only [elt]); (first | assumption | omega)
  case b2 => (try dsimp only [elt]); (first | assumption | omega)
  case b3 => (try dsimp only [elt]); (first | assumption | omega)
  case b4 => (try dsimp only [elt]); (first | assumption | omega)
  case b5 => (try dsimp only [elt]); (first | assumption | omega)
end
end Ruc
end
section
open PySem PySem.W PySem.Calls PySem.Spec PyProof.Rows
set_option maxHeartbeats 1500000
namespace Ruc
theorem fillRu14 : PySem.Challenge.rw_ew0039_01.row.prog = PySem.Challenge.rw_ew0039_01.row.prog ∧ hd.heap_39 = hd.heap_39 := by k_fill; exact ⟨rfl, rfl⟩
local macro_rules | `(tactic| k_room) => `(tactic| (simp only [depth_under_make, depth_under_kw, depth_in1, depth_deeper, depth_caller, Ar]; omega))
local macro_rules | `(tactic| k_mem) => `(tactic| assumption)
local macro_rules | `(tactic| k_all) => `(tactic| assumption)
local macro_rules | `(tactic| walk_at "ruc enter") => `(tactic| (refine wpAny_call ?_; (refine' code_def ?B ?F ?X ?N ?T rfl ?f1 ?f2 ?k6 ?k7 ?k8 ?k9 ?kB ?_ ?c2 ?c3 ?c4 ?c5; (case B => assumption); (case F => assumption); (case X => assumption); (case N => assumption); (case T => assumption); (case f1 => assumption); (case f2 => assumption); (case k6 => k_is); (case k7 => k_is); (case k8 => k_room); (case k9 => exact BindsTo.of_eq rfl); (case c5 => decide); (case kB => exact locs rfl); (case c2 => exact rfl); (case c3 => exact rfl); (case c4 => exact rfl); k_whole; intro g' L' h' FG' F' N' B' X' T'; (try dsimp only); (try k_lift B'); (try k_fold))))
local macro_rules | `(tactic| walk_at "ruc cx") => `(tactic| exact ⟨by assumption, by assumption, by assumption, rfl, rfl, by (first | omega | (dsimp only [Ar]; omega) | (simp only [depth_deeper, depth_in1, Around.deeper_units, Around.in1_units, Ar]; omega)), by (first | omega | (dsimp only [Ar]; omega) | (simp only [depth_deeper, depth_in1, Around.deeper_units, Around.in1_units, Ar]; omega))⟩)
local macro_rules | `(tactic| walk_at "call ref") => `(tactic| (k_here; (with_reducible show wpAny _ _ (call (Value.ref 57) _) _ _ _); k_dflt (refine' len_G (n := 3) ?cx ?F ?N ?md ?mx ?mdx ?hd1 ?hf ?hc ?lo ?_; (case cx => walk_at "ruc cx"); (case F => k_asm); (case N => k_asm); (case mx => k_mem); (case mdx => k_mem); (case md => k_mem); (case hd1 => assumption); (case hf => assumption); (case hc => assumption); (case lo => assumption)); intro h' t' tk' F' N'; (try dsimp only [PySem.W.LenBack]); (try (refine ⟨⟨by omega, by omega⟩, ?_⟩))))
local macro_rules | `(tactic| walk_at "call ref") => `(tactic| (k_here; (with_reducible show wpAny _ _ (call (Value.ref 78) _) _ _ _); k_dflt (refine' keys_G (n := 3) ?cx ?F ?N ?md ?mx ?mdx ?hd1 ?hf ?hc ?hlt ?lo ?_; (case cx => walk_at "ruc cx"); (case F => k_asm); (case N => k_asm); (case mx => k_mem); (case mdx => k_mem); (case md => k_mem); (case hd1 => assumption); (case hf => assumption); (case hc => assumption); (case hlt => (refine ⟨?_, ?_⟩ <;> omega)); (case lo => assumption)); intro S' h' so' tk' F' N' l1 hSK; (try k_lt l1)))
local macro_rules | `(tactic| walk_at "call ref") => `(tactic| (k_here; (with_reducible show wpAny _ _ (call (Value.ref 106) _) _ _ _); k_dflt (refine' walked_G (n := 3) ?cx ?F ?N ?mx ?mdx ?_; (case cx => walk_at "ruc cx"); (case F => k_asm); (case N => k_asm); (case mx => k_mem); (case mdx => k_mem)); intro h' tk' F' N'))
local macro_rules | `(tactic| walk_at "call builtin:len") => `(tactic| (k_here; (with_reducible show wpAny _ _ (call (Value.builtin "len") [Value.ref _]) _ _ _); k_dflt (refine' kst_len ?k1 ?k2 ?k3 ?k4 ?_; (case k1 => k_asm); (case k2 => k_mem); (case k3 => (first | assumption | exact len_snoc _ _ | exact len_cons_snoc _ _ _)); (case k4 => omega); k_whole)))
local macro_rules | `(tactic| walk_at "compareOp NotEq ref ref") => `(tactic| (k_here; k_dflt (refine' ne_ints_same ?N ?ma ?mb ?ia ?ib ?hu ?_; (case N => k_asm); (case ma => k_mem); (case mb => k_mem); (case ia => assumption); (case ib => assumption); (case hu => (first | omega | (dsimp only [Ar]; omega))))))
local macro_rules | `(tactic| walk_at "compareOp NotEq ref ref") => `(tactic| (k_here; k_dflt (refine' ne_sets_N ?N ?ma ?mb ?sa ?sb ?hl ?hu ?_; (case N => k_asm); (case ma => k_mem); (case mb => k_mem); (case sa => assumption); (case sb => assumption); (case hl => assumption); (case hu => (dsimp only [Ar]; omega)))))
local macro_rules | `(tactic| walk_at "eval SetComp") => `(tactic| (refine stop_here ?_))
local macro_rules | `(tactic| walk_at "ruc compS") => `(tactic| ((show wpAny _ _ _ _ _ _); k_dflt (refine' SetComp_S (cl := []) ?F ?a1 ?a2 ?a3 ?a4 ?a5 ?_ ?a6; (case F => k_asm); (case a1 => with_unfolding_all rfl); (case a2 => decide); (case a3 => rfl); (case a4 => decide); (case a5 => rfl); (case a6 => intro _; rfl)); walk1; (refine' CompSrcS.ledger ?a1 ?a2 ?a3 ?a4 ?a5 ?_; (case a1 => rfl); (case a2 => k_asm); (case a3 => k_asm); (case a4 => k_mem); (case a5 => assumption); intro g')))
local macro_rules | `(tactic| walk_at "execs cons") => `(tactic| ((with_reducible show wpAny _ _ (execs (Stmt.If (Expr.BoolOp _ _ _) _ _ _ :: Stmt.If (Expr.BoolOp _ _ _) _ _ _ :: []) _) _ _ _); (refine stop_here ?_)))
local macro_rules | `(tactic| walk_at "exec Assign cons ListComp") => `(tactic| (refine stop_here ?_))
local macro_rules | `(tactic| walk_at "eval ListComp") => `(tactic| (refine stop_here ?_))
local macro_rules | `(tactic| walk_at "ruc compU") => `(tactic| ((show wpAny _ _ _ _ _ _); k_dflt (refine' LCg.ListComp_U ?F ?a1 ?a2 ?a3 ?a4 ?a5 ?_ ?a6; (case F => k_asm); (case a1 => with_unfolding_all rfl); (case a2 => decide); (case a3 => rfl); (case a4 => decide); (case a5 => rfl); (case a6 => intro _; rfl)); walk1; (refine' LCg.CompSrc.ledger ?a1 ?a2 ?a3 ?a4 ?a5 ?_; (case a1 => rfl); (case a2 => k_asm); (case a3 => k_asm); (case a4 => k_mem); (case a5 => assumption); intro g')))
local macro_rules | `(tactic| walk_at "call ref") => `(tactic| (k_here; (with_reducible show wpAny _ _ (call (Value.ref 43) _) _ _ _); k_dflt (refine' setitem_new_G (n := 3) ?cx ?F ?N ?U1 ?mx ?mdx ?hd1 ?hf ?hk ?hc ?hfit ?hlt ?lo ?_; (case cx => walk_at "ruc cx"); (case F => k_asm); (case N => k_asm); (case mx => k_mem); (case mdx => k_mem); (case U1 => k_updF); (case hd1 => assumption); (case hf => assumption); (case hk => assumption); (case hc => assumption); (case hfit => assumption); (case hlt => ((repeat' refine And.intro ?_ ?_) <;> omega)); (case lo => assumption)); intro h' o' kvs' tk' F' N' hdN hfN; (try dsimp only at N')))
local macro_rules | `(tactic| walk_at "call ref") => `(tactic| (k_here; (with_reducible show wpAny _ _ (call (Value.ref 43) _) _ _ _); k_dflt (refine' setitem_old_G (n := 3) ?cx ?F ?N ?U1 ?U2 ?mx ?mdx ?mc ?hd1 ?hf ?hk ?hc ?hI ?hT ?hoT ?hlt ?lo ?hD ?hs ?_; (case cx => walk_at "ruc cx"); (case F => k_asm); (case N => k_asm); (case mx => k_mem); (case mdx => k_mem); (case hD => assumption); (case U1 => k_updF); (case U2 => (intro o'; (try dsimp only); k_updF)); (case mc => k_mem); (case hoT => assumption); (case hI => assumption); (case hd1 => assumption); (case hf => assumption); (case hk => assumption); (case hc => assumption); (case hT => omega); (case hlt => ((repeat' refine And.intro ?_ ?_) <;> omega)); (case lo => assumption); (case hs => (intro p hp'; refine ⟨by k_mem, ?_, ?_⟩ <;> (revert p; assumption)))); intro h' o' kvs' vsT' nT' tk' F' N' hdN hfN hTN; (try dsimp only at N')))
local macro_rules | `(tactic| walk_at "call ref") => `(tactic| (k_here; (with_reducible show wpAny _ _ (call (Value.ref 43) _) _ _ _); k_dflt (refine' setitem_full_G (n := 3) ?cx ?F ?N ?U1 ?U2 ?mx ?mdx ?mc ?hd1 ?hf ?hk ?hc ?hfull ?hfst ?hI ?hT ?hoT ?hlt ?lo ?hD ?hs ?_; (case cx => walk_at "ruc cx"); (case F => k_asm); (case N => k_asm); (case mx => k_mem); (case mdx => k_mem); (case hD => assumption); (case U1 => k_updF); (case U2 => (intro o'; (try dsimp only); k_updF)); (case mc => k_mem); (case hoT => assumption); (case hI => assumption); (case hd1 => assumption); (case hf => assumption); (case hk => assumption); (case hc => assumption); (case hfst => assumption); (case hfull => assumption); (case hT => omega); (case hlt => ((repeat' refine And.intro ?_ ?_) <;> omega)); (case lo => assumption); (case hs => (intro p hp'; refine ⟨by k_mem, ?_, ?_⟩ <;> (revert p; assumption)))); intro h' o' kvs' vsT' nT' tk' F' N' hdN hfN hTN; (try dsimp only at N')))
local macro_rules | `(tactic| walk_at "call ref") => `(tactic| (k_here; (with_reducible show wpAny _ _ (call (Value.ref 99) _) _ _ _); k_dflt (refine' taken_hit_G (n := 3) ?cx ?F ?N ?U1 ?U2 ?mx ?mdx ?mc ?hd1 ?hf ?hk ?hc ?hI ?hT ?hoT ?hlt ?lo ?hD ?hs ?_; (case cx => walk_at "ruc cx"); (case F => k_asm); (case N => k_asm); (case mx => k_mem); (case mdx => k_mem); (case hD => assumption); (case U1 => k_updF); (case U2 => (intro o'; (try dsimp only); k_updF)); (case mc => k_mem); (case hoT => assumption); (case hI => assumption); (case hd1 => assumption); (case hf => assumption); (case hk => assumption); (case hc => assumption); (case hT => omega); (case hlt => ((repeat' refine And.intro ?_ ?_) <;> omega)); (case lo => assumption); (case hs => (intro p hp'; refine ⟨by k_mem, ?_, ?_⟩ <;> (revert p; assumption)))); intro h' o' kvs' vsT' nT' tk' F' N' hdN hfN hTN; (try dsimp only at N')))
local macro_rules | `(tactic| walk_at "call ref") => `(tactic| (k_here; (with_reducible show wpAny _ _ (call (Value.ref 99) _) _ _ _); k_dflt (refine' taken_miss_G (n := 3) ?cx ?F ?N ?md ?mx ?mdx ?hd1 ?hf ?hk ?hc ?hlt ?lo ?_; (case cx => walk_at "ruc cx"); (case F => k_asm); (case N => k_asm); (case mx => k_mem); (case mdx => k_mem); (case md => k_mem); (case hd1 => assumption); (case hf => assumption); (case hk => assumption); (case hc => assumption); (case hlt => ((repeat' refine And.intro ?_ ?_) <;> omega)); (case lo => assumption)); intro h' tk' F' N'))
local macro_rules | `(tactic| walk_at "call ref") => `(tactic| (k_here; (with_reducible show wpAny _ _ (call (Value.ref 92) _) _ _ _); k_dflt (refine' got_miss_G (n := 3) ?cx ?F ?N ?md ?mx ?mdx ?hd1 ?hf ?hk ?hc ?hlt ?lo ?_; (case cx => walk_at "ruc cx"); (case F => k_asm); (case N => k_asm); (case mx => k_mem); (case mdx => k_mem); (case md => k_mem); (case hd1 => assumption); (case hf => assumption); (case hk => assumption); (case hc => assumption); (case hlt => ((repeat' refine And.intro ?_ ?_) <;> omega)); (case lo => assumption)); intro B' nB' h' tk' F' N' l1; (try k_lt l1)))
local macro_rules | `(tactic| walk_at "call ref") => `(tactic| (k_here; (with_reducible show wpAny _ _ (call (Value.ref 92) _) _ _ _); k_dflt (refine' got_hit_G (n := 3) ?cx ?F ?N ?U1 ?mx ?mdx ?hd1 ?hf ?hk ?hc ?hlt ?lo ?_; (case cx => walk_at "ruc cx"); (case F => k_asm); (case N => k_asm); (case mx => k_mem); (case mdx => k_mem); (case U1 => k_updF); (case hd1 => assumption); (case hf => assumption); (case hk => assumption); (case hc => assumption); (case hlt => ((repeat' refine And.intro ?_ ?_) <;> omega)); (case lo => assumption)); intro B' nB' h' o' kvs' t' tk' F' N' l1 hdN hfN; (try dsimp only at N'); (try k_lt l1)))
local macro_rules | `(tactic| walk_at "call ref") => `(tactic| (k_here; (with_reducible show wpAny _ _ (call (Value.ref 71) _) _ _ _); k_dflt (refine' clear_G (n := 3) ?cx ?F ?N ?U1 ?U2 ?mx ?mdx ?mc ?hd1 ?hf ?hc ?hI ?hT ?hoT ?hlt ?lo ?hD ?hs ?_; (case cx => walk_at "ruc cx"); (case F => k_asm); (case N => k_asm); (case mx => k_mem); (case mdx => k_mem); (case hD => assumption); (case U1 => k_updF); (case U2 => (intro o'; (try dsimp only); k_updF)); (case mc => k_mem); (case hoT => assumption); (case hI => assumption); (case hd1 => assumption); (case hf => assumption); (case hc => assumption); (case hT => omega); (case hlt => ((repeat' refine And.intro ?_ ?_) <;> omega)); (case lo => assumption); (case hs => (intro p hp'; refine ⟨by k_mem, ?_, ?_⟩ <;> (revert p; assumption)))); intro h' o' kvs' vsT' nT' tk' F' N' hdN hfN hTN; (try dsimp only at N')))
local macro_rules | `(tactic| walk_at "inplaceOp Add ref") => `(tactic| (k_here; k_dflt (refine' iadd_lists ?F ?N ?U ?mb ?hz ?_; (case F => k_asm); (case N => k_asm); (case U => k_updF); (case mb => k_mem); (case hz => omega)); intro h' n' F' N'; (try dsimp only at N')))
local macro_rules | `(tactic| walk_at "binaryOp Add ref ref") => `(tactic| (k_here; k_dflt (refine' add_listsN ?F ?N ?ma ?mb ?hz ?_; (case F => k_asm); (case N => k_asm); (case ma => k_mem); (case mb => k_mem); (case hz => (simp only [List.length_cons, List.length_nil] <;> omega))); intro D' h' F' N' l1; (try k_lt l1)))
local macro_rules | `(tactic| walk_at "ite") => `(tactic| first | refine ite_pos (by assumption) ?_ | refine ite_neg (by assumption) ?_ | refine ite_pos (by omega) ?_ | refine ite_neg (by omega) ?_)
local macro_rules | `(tactic| walk_at "subscriptTail") => `(tactic| (k_here; (with_reducible show wpAny _ _ (subscriptTail _ _ (Value.ref _) (Value.int 0 _)) _ _ _); k_dflt (refine' head_item ?N ?hm ?_ ?hs ?hg; (case N => k_asm); (case hm => k_mem); (case hs => with_unfolding_all rfl); (case hg => (intro _; with_unfolding_all rfl)))))
local macro_rules | `(tactic| walk_at "subscriptTail Name Slice ref ref") => `(tactic| (k_here; k_dflt (refine' tail_slice ?F ?N ?hm ?hz ?_ ?hs ?ht; (case F => k_asm); (case N => k_asm); (case hm => k_mem); (case hz => (simp only [List.length_cons, List.length_append, List.length_nil]; omega)); (case hs => with_unfolding_all rfl); (case ht => (intro _; with_unfolding_all rfl))); intro D' h' F' N' l1; (try k_lt l1)))
local macro_rules | `(tactic| walk_at "call builtin:list.append") => `(tactic| (k_here; k_dflt (refine' append_K ?k1 ?k2 ?k3 ?_ ?z; (case k1 => k_asm); (case k2 => k_asm); (case k3 => k_upd); (case z => (rw [PySem.sizeLine_eq]; simp only [List.length_append, List.length_cons, List.length_nil, List.size_toArray]; omega)); k_whole); intro h' F' N'; (try k_sweep)))
local macro_rules | `(tactic| k_ne) => `(tactic| (refine neN ?_; (try dsimp only); first | assumption | exact Ne.symm (by assumption) | omega))
section
variable {w : World} {A₀ : Around} {h₀ : Heap} {L x dx d tL DU P NU I fa R H : Addr} {loose : List Str} {mean : ExcName → Option Value} {u mg mb : Str → Option Value} {D U n : Nat}
  {g : Option (List Code)} {s : Shared} {E : Value → Shared → Prop} {Q : Flow → Shared → Prop} {dv : Value} {t1 t2 t3 ts tp tk1 tk2 : Tok} {nn nd np nT nw nr nh : Nat} {o oT oK oC oI : Obj} {kvs : List (Int × Value)} {c : List (Int × Int)} {size pl kd key : Int} {sil : Bool} {tail : List (Addr × Obj)}
  {dvs pvs vsT ws rs hs : List Value} {due told : List Int}
theorem mput_full (cx : Cx 10 w A₀ h₀ h₀ [] (lawEnv L fa) L loose mean mg mb D U)
    (F : Fr h₀ L s.heap (fun y => if y = Str.ofString "rest" then some (.ref R) else if y = Str.ofString "held" then some (.ref H) else if y = Str.ofString "kind" then some (.int kd tk1) else if y = Str.ofString "place" then some (.int pl tp) else if y = Str.ofString "due" then some (.ref DU) else if y = Str.ofString "pairs" then some (.ref P) else if y = Str.ofString "silent" then some (.bool sil) else if y = Str.ofString "size" then some (.int size ts) else if y = Str.ofString "numbers" then some (.ref NU) else u y))
    (N : News h₀ L s.heap ((R, W.listOf rs.toArray nr) :: (H, W.listOf hs.toArray nh) :: (I, oI) :: (DU, W.listOf dvs.toArray nd) :: (P, W.listOf pvs.toArray np) :: (d, o) :: (x, instObj 81 dx) :: (dx, selfDict w t1 t2 t3 (.int size ts) dv d nn) :: (tL, W.listOf vsT.toArray nT) :: (NU, W.listOf ws.toArray nw) :: (L + 1 + 1 + 1, oT) :: (L + 1 + 1, oK) :: (L + 1, oC) :: tail))
    (hord : @LT.lt Nat _ (L + 1 + 1 + 1) NU ∧ @LT.lt Nat _ NU tL ∧ @LT.lt Nat _ tL dx ∧ @LT.lt Nat _ dx x ∧ @LT.lt Nat _ x d ∧ @LT.lt Nat _ d DU ∧ @LT.lt Nat _ DU I ∧ @Ne Nat P (L + 1 + 1) ∧ @Ne Nat P d ∧ @Ne Nat P tL ∧ @Ne Nat P DU ∧ @Ne Nat P I)
    (hoT : oT.data = .cell (some (.ref tL))) (hoC : oC.data = .cell (some (.ref x))) (hoK : oK.data = .cell (some (.int key tk2)))
    (hd1 : o.IsDictOf (PySem.intKind prg w) kvs) (hf : PyProof.V.FlatPairs PyData.int kvs (kdfD c)) (hc : c.length ≤ 100) (lo : (d == sysModules) = false)
    (hdue : IntsAre dvs due) (hduel : due.length ≤ 400) (htold : IntsAre vsT told) (htd : told = if sil then [] else due) (hp : PairsIn tail pvs c)
    (hD : DispS sil dv tL (L + 1 + 1 + 1) tail) (hofK : ∀ p ∈ tail, p.1 ≠ L + 1 + 1) (hofd : ∀ p ∈ tail, p.1 ≠ d) (hofT : ∀ p ∈ tail, p.1 ≠ tL) (hofU : ∀ p ∈ tail, p.1 ≠ DU) (hofI : ∀ p ∈ tail, p.1 ≠ I)
    (hHo : Off H L d tL DU I P) (hRo : Off R L d tL DU I P) (hRH : @Ne Nat R H) (hpl0 : 0 ≤ pl)
    (hrs : PairsIn tail rs (c.filter fun q => q.1 != key)) (hhs : PairsIn tail hs (c.filter fun q => q.1 == key)) (gd : Good c size) (hk0 : 0 ≤ key) (hk5 : key < 5) (hsz : size ≤ 4)
    {k0 v0 : Int} {c2 : List (Int × Int)} (hkd : ([0, 2, 3, 4].any fun x => x == kd) = true) (hk : kdfHas c key = false) (hfull : size < ((kdfPut c key (pl.fdiv 2 - 1)).length : Int)) (hfst : kdfPut c key (pl.fdiv 2 - 1) = (k0, v0) :: c2)
    (h : ∀ h' tk' P' pvs' np' o' kvs' dvs' nd' vsT' nT' extra (u' : Str → Option Value), Fr h₀ L h' (fun y => if y = Str.ofString "due" then some (.ref DU) else if y = Str.ofString "pairs" then some (.ref P') else if y = Str.ofString "silent" then some (.bool sil) else if y = Str.ofString "size" then some (.int size ts) else if y = Str.ofString "numbers" then some (.ref NU) else u' y) →
      News h₀ L h' ((I, oI) :: (DU, W.listOf dvs'.toArray nd') :: (P', W.listOf pvs'.toArray np') :: (d, o') :: (x, instObj 81 dx) :: (dx, selfDict w t1 t2 t3 (.int size ts) dv d nn) :: (tL, W.listOf vsT'.toArray nT') :: (NU, W.listOf ws.toArray nw) :: (L + 1 + 1 + 1, oT) :: (L + 1 + 1, oK) :: (L + 1, oC) :: (extra ++ tail)) → PairsIn (extra ++ tail) pvs' (c2) → o'.IsDictOf (PySem.intKind prg w) kvs' → PyProof.V.FlatPairs PyData.int kvs' (kdfD (c2)) → IntsAre dvs' (due ++ [v0]) → IntsAre vsT' (if sil then [] else due ++ [v0]) →
      (∀ p ∈ extra, p.1 ≠ L + 1 + 1 ∧ p.1 ≠ d ∧ p.1 ≠ tL ∧ p.1 ≠ DU ∧ p.1 ≠ I) → @Ne Nat P' (L + 1 + 1) → @Ne Nat P' d → @Ne Nat P' tL → @Ne Nat P' DU → @Ne Nat P' I →
      wpAny (model prg w) (Ar D U g (lawEnv L fa) []) (execs checks (lawEnv L fa)) Q E { s with heap := h', toks := tk' })
    : wpAny (model prg w) (Ar D U g (lawEnv L fa) []) (execs loopRest (lawEnv L fa)) Q E s := by
  obtain ⟨B, X, T, hf1, hk1, hDD, hU⟩ := cx
  obtain ⟨oH1, oH2, oH3, oH4, oH5, oH6⟩ := hHo
  obtain ⟨oR1, oR2, oR3, oR4, oR5, oR6⟩ := hRo
  obtain ⟨q1, q2, q3, q4, q5, q6, q7, q8, q9, q10, q11, q12⟩ := hord
  have hpl := hp.length
  have hrl := hrs.length
  have hhl := hhs.length
  have hss := gd.sz
  have htl : told.length ≤ 400 := by
    rw [htd]
    cases sil with
    | true => exact Nat.zero_le _
    | false => exact hduel
  have hz : ∀ ys : List Value, ys.length ≤ 100 → ys.toArray.size ≤ sizeLine := fun ys hy => by rw [List.size_toArray, PySem.sizeLine_eq]; omega
  have hlr := List.length_filter_le (fun q : Int × Int => q.1 != key) c
  have hlh := List.length_filter_le (fun q : Int × Int => q.1 == key) c
  have hz1 := hz rs (by omega)
  have hz2 := hz hs (by omega)
  have hz3 := hz pvs (by omega)
  dsimp only [lawEnv, loopRest, loopBody, List.drop, lawBody, lawScope, lawStmt, PySem.Challenge.pw_ew0039_01] at hf1 hk1 ⊢
  w_on
  have hfh := flt_miss hk
  rw [hfh.1] at hhs
  rw [hfh.2] at hrs
  have hhs0 := hhs
  cases hhs
  have hfull2 := hfull
  rw [put_new hk, List.length_append, List.length_singleton] at hfull2
  have hfd := full_del gd.nd hk ((put_new hk).symm.trans hfst)
  cases hrs with
  | nil =>
    have hfe : [] ++ [(key, pl.fdiv 2 - 1)] = (k0, v0) :: c2 := (put_new hk).symm.trans hfst
    simp only [List.nil_append, List.cons.injEq, Prod.mk.injEq] at hfe
    obtain ⟨⟨hek, hev⟩, hec⟩ := hfe
    subst hek hev hec
    have hrl2 : ([] : List Value).length = 0 := rfl
    w_strict k_steps
    w_strict walk_at "ruc compU"
    refine' pm_rest hhs0 (fun t' k' v' t1' t2' nt' I' oI' C' oC' D' m' ys' h' tk' E' hm' hC' hx' F' N' off' ne' => ?_) (fun ys' hys' => ?_)
    · w_strict k_steps
      exact LCg.CompEnd.intro F' N' _ (fun p hp => hp) off' (Or.inr ⟨W.listOf [].toArray nh, by k_mem, rfl, nh, rfl⟩) ⟨rfl, _, rfl⟩
    have hyl : ys'.length ≤ 100 := by rw [hys'.length, List.length_map]; (first | omega | (simp only [List.length_cons, List.length_nil]; omega))
    have hdl := hdue.length
    intro DD hD0 tkD FD ND oD
    have oDU : @Ne Nat DD DU := Ne.symm (off1_mem oD (DU, W.listOf dvs.toArray nd) (by k_mem))
    w_strict k_steps
    (show wpAny _ _ _ _ _ _)
    rename Fr h₀ L _ _ => kF
    rename News h₀ L _ _ => kN
    rename Obj.IsDictOf _ _ _ => hdN
    rename PyProof.V.FlatPairs _ _ _ => hfN
    rename Told sil _ told _ => hTN
    rw [List.push_toArray] at kN
    have hP := mem_of kN (p := (_, W.listOf ([] : List Value).toArray 0)) (by k_mem)
    have hdu2 : IntsAre (dvs ++ ys') due := by simpa using hdue.append hys'
    refine' h _ _ (elt hP).1 [] 0 _ _ _ _ _ _ [] _ (canonF kF rfl rfl rfl rfl rfl) ?nn .nil hdN (by rw [put_new hk, hfd] at hfN; exact hfN) (hdu2.append (.cons _ _ .nil)) (told_up hTN htd) (fun p hp => nomatch hp) ?b1 ?b2 ?b3 ?b4 ?b5
    case nn => (intro p hp; (repeat (rcases List.mem_cons.mp hp with rfl | hp; (focus exact kN _ (by k_mem)))); exact kN _ (by k_mem))
    case b1 => (try dsimp only [elt]); (first | assumption | omega)
    case b2 => (try dsimp only [elt]); (first | assumption | omega)
    case b3 => (try dsimp only [elt]); (first | assumption | omega)
    case b4 => (try dsimp only [elt]); (first | assumption | omega)
    case b5 => (try dsimp only [elt]); (first | assumption | omega)
  | @cons t0 k1 v1 ta tb nt0 vs2 ps2 hm0 hr0 =>
    have hfe := (put_new hk).symm.trans hfst
    simp only [List.cons_append, List.cons.injEq, Prod.mk.injEq] at hfe
    obtain ⟨⟨hek, hev⟩, hec⟩ := hfe
    subst hek hev hec
    have hrl2 := hr0.length
    have hps2 : ps2.length ≤ 99 := by
      have := hc
      rw [List.length_cons] at this
      omega
    rw [List.length_cons] at hfull2
    w_strict k_steps
    w_strict walk_at "ruc compU"
    refine' pm_rest hhs0 (fun t' k' v' t1' t2' nt' I' oI' C' oC' D' m' ys' h' tk' E' hm' hC' hx' F' N' off' ne' => ?_) (fun ys' hys' => ?_)
    · w_strict k_steps
      exact LCg.CompEnd.intro F' N' _ (fun p hp => hp) off' (Or.inr ⟨W.listOf [].toArray nh, by k_mem, rfl, nh, rfl⟩) ⟨rfl, _, rfl⟩
    have hyl : ys'.length ≤ 100 := by rw [hys'.length, List.length_map]; (first | omega | (simp only [List.length_cons, List.length_nil]; omega))
    have hdl := hdue.length
    intro DD hD0 tkD FD ND oD
    have oDU : @Ne Nat DD DU := Ne.symm (off1_mem oD (DU, W.listOf dvs.toArray nd) (by k_mem))
    w_strict k_steps
    (show wpAny _ _ _ _ _ _)
    rename Fr h₀ L _ _ => kF
    rename News h₀ L _ _ => kN
    rename Obj.IsDictOf _ _ _ => hdN
    rename PyProof.V.FlatPairs _ _ _ => hfN
    rename Told sil _ told _ => hTN
    rw [List.push_toArray] at kN
    have hT := mem_of kN (p := (_, pairObj key (pl.fdiv 2 - 1) _ _ _)) (by k_mem)
    have hP := mem_of kN (p := (_, W.listOf (vs2 ++ [Value.ref _]).toArray 0)) (by k_mem)
    have hdu2 : IntsAre (dvs ++ ys') due := by simpa using hdue.append hys'
    refine' h _ _ (elt hP).1 (vs2 ++ [Value.ref (elt hT).1]) 0 _ _ _ _ _ _ [elt hT] _ (canonF kF rfl rfl rfl rfl rfl) ?nn ((hr0.mono fun p hp => .tail _ hp).append (.cons (.head _) .nil)) hdN (by rw [put_new hk, hfd] at hfN; exact hfN) (hdu2.append (.cons _ _ .nil)) (told_up hTN htd) (apart5 ?aa) ?b1 ?b2 ?b3 ?b4 ?b5
    case nn => (intro p hp; (repeat (rcases List.mem_cons.mp hp with rfl | hp; (focus exact kN _ (by k_mem)))); exact kN _ (by k_mem))
    case aa => (try dsimp only [elt]); ((repeat' refine And.intro ?_ ?_) <;> (first | assumption | omega))
    case b1 => (try dsimp only [elt]); (first | assumption | omega)
    case b2 => (try dsimp only [elt]); (first | assumption | omega)
    case b3 => (try dsimp only [elt]); (first | assumption | omega)
    case b4 => (try dsimp only [elt]); (first | assumption | omega)
    case b5 => (try dsimp only [elt]); (first | assumption | omega)

end
end Ruc
end
section
open PySem PySem.W PySem.Calls PySem.Spec PyProof.Rows
set_option maxHeartbeats 1500000
namespace Ruc
theorem fillRu15 : PySem.Challenge.rw_ew0039_01.row.prog = PySem.Challenge.rw_ew0039_01.row.prog ∧ hd.heap_39 = hd.heap_39 := by k_fill; exact ⟨rfl, rfl⟩
local macro_rules | `(tactic| k_room) => `(tactic| (simp only [depth_under_make, depth_under_kw, depth_in1, depth_deeper, depth_caller, Ar]; omega))
local macro_rules | `(tactic| k_mem) => `(tactic| assumption)
local macro_rules | `(tactic| k_all) => `(tactic| assumption)
local macro_rules | `(tactic| walk_at "ruc enter") => `(tactic| (refine wpAny_call ?_; (refine' code_def ?B ?F ?X ?N ?T rfl ?f1 ?f2 ?k6 ?k7 ?k8 ?k9 ?kB ?_ ?c2 ?c3 ?c4 ?c5; (case B => assumption); (case F => assumption); (case X => assumption); (case N => assumption); (case T => assumption); (case f1 => assumption); (case f2 => assumption); (case k6 => k_is); (case k7 => k_is); (case k8 => k_room); (case k9 => exact BindsTo.of_eq rfl); (case c5 => decide); (case kB => exact locs rfl); (case c2 => exact rfl); (case c3 => exact rfl); (case c4 => exact rfl); k_whole; intro g' L' h' FG' F' N' B' X' T'; (try dsimp only); (try k_lift B'); (try k_fold))))
local macro_rules | `(tactic| walk_at "ruc cx") => `(tactic| exact ⟨by assumption, by assumption, by assumption, rfl, rfl, by (first | omega | (dsimp only [Ar]; omega) | (simp only [depth_deeper, depth_in1, Around.deeper_units, Around.in1_units, Ar]; omega)), by (first | omega | (dsimp only [Ar]; omega) | (simp only [depth_deeper, depth_in1, Around.deeper_units, Around.in1_units, Ar]; omega))⟩)
local macro_rules | `(tactic| walk_at "call ref") => `(tactic| (k_here; (with_reducible show wpAny _ _ (call (Value.ref 57) _) _ _ _); k_dflt (refine' len_G (n := 3) ?cx ?F ?N ?md ?mx ?mdx ?hd1 ?hf ?hc ?lo ?_; (case cx => walk_at "ruc cx"); (case F => k_asm); (case N => k_asm); (case mx => k_mem); (case mdx => k_mem); (case md => k_mem); (case hd1 => assumption); (case hf => assumption); (case hc => assumption); (case lo => assumption)); intro h' t' tk' F' N'; (try dsimp only [PySem.W.LenBack]); (try (refine ⟨⟨by omega, by omega⟩, ?_⟩))))
local macro_rules | `(tactic| walk_at "call ref") => `(tactic| (k_here; (with_reducible show wpAny _ _ (call (Value.ref 78) _) _ _ _); k_dflt (refine' keys_G (n := 3) ?cx ?F ?N ?md ?mx ?mdx ?hd1 ?hf ?hc ?hlt ?lo ?_; (case cx => walk_at "ruc cx"); (case F => k_asm); (case N => k_asm); (case mx => k_mem); (case mdx => k_mem); (case md => k_mem); (case hd1 => assumption); (case hf => assumption); (case hc => assumption); (case hlt => (refine ⟨?_, ?_⟩ <;> omega)); (case lo => assumption)); intro S' h' so' tk' F' N' l1 hSK; (try k_lt l1)))
local macro_rules | `(tactic| walk_at "call ref") => `(tactic| (k_here; (with_reducible show wpAny _ _ (call (Value.ref 106) _) _ _ _); k_dflt (refine' walked_G (n := 3) ?cx ?F ?N ?mx ?mdx ?_; (case cx => walk_at "ruc cx"); (case F => k_asm); (case N => k_asm); (case mx => k_mem); (case mdx => k_mem)); intro h' tk' F' N'))
local macro_rules | `(tactic| walk_at "call builtin:len") => `(tactic| (k_here; (with_reducible show wpAny _ _ (call (Value.builtin "len") [Value.ref _]) _ _ _); k_dflt (refine' kst_len ?k1 ?k2 ?k3 ?k4 ?_; (case k1 => k_asm); (case k2 => k_mem); (case k3 => (first | assumption | exact len_snoc _ _ | exact len_cons_snoc _ _ _)); (case k4 => omega); k_whole)))
local macro_rules | `(tactic| walk_at "compareOp NotEq ref ref") => `(tactic| (k_here; k_dflt (refine' ne_ints_same ?N ?ma ?mb ?ia ?ib ?hu ?_; (case N => k_asm); (case ma => k_mem); (case mb => k_mem); (case ia => assumption); (case ib => assumption); (case hu => (first | omega | (dsimp only [Ar]; omega))))))
local macro_rules | `(tactic| walk_at "compareOp NotEq ref ref") => `(tactic| (k_here; k_dflt (refine' ne_sets_N ?N ?ma ?mb ?sa ?sb ?hl ?hu ?_; (case N => k_asm); (case ma => k_mem); (case mb => k_mem); (case sa => assumption); (case sb => assumption); (case hl => assumption); (case hu => (dsimp only [Ar]; omega)))))
local macro_rules | `(tactic| walk_at "eval SetComp") => `(tactic| (refine stop_here ?_))
local macro_rules | `(tactic| walk_at "ruc compS") => `(tactic| ((show wpAny _ _ _ _ _ _); k_dflt (refine' SetComp_S (cl := []) ?F ?a1 ?a2 ?a3 ?a4 ?a5 ?_ ?a6; (case F => k_asm); (case a1 => with_unfolding_all rfl); (case a2 => decide); (case a3 => rfl); (case a4 => decide); (case a5 => rfl); (case a6 => intro _; rfl)); walk1; (refine' CompSrcS.ledger ?a1 ?a2 ?a3 ?a4 ?a5 ?_; (case a1 => rfl); (case a2 => k_asm); (case a3 => k_asm); (case a4 => k_mem); (case a5 => assumption); intro g')))
local macro_rules | `(tactic| walk_at "execs cons") => `(tactic| ((with_reducible show wpAny _ _ (execs (Stmt.If (Expr.BoolOp _ _ _) _ _ _ :: Stmt.If (Expr.BoolOp _ _ _) _ _ _ :: []) _) _ _ _); (refine stop_here ?_)))
local macro_rules | `(tactic| walk_at "exec Assign cons ListComp") => `(tactic| (refine stop_here ?_))
local macro_rules | `(tactic| walk_at "eval ListComp") => `(tactic| (refine stop_here ?_))
local macro_rules | `(tactic| walk_at "ruc compU") => `(tactic| ((show wpAny _ _ _ _ _ _); k_dflt (refine' LCg.ListComp_U ?F ?a1 ?a2 ?a3 ?a4 ?a5 ?_ ?a6; (case F => k_asm); (case a1 => with_unfolding_all rfl); (case a2 => decide); (case a3 => rfl); (case a4 => decide); (case a5 => rfl); (case a6 => intro _; rfl)); walk1; (refine' LCg.CompSrc.ledger ?a1 ?a2 ?a3 ?a4 ?a5 ?_; (case a1 => rfl); (case a2 => k_asm); (case a3 => k_asm); (case a4 => k_mem); (case a5 => assumption); intro g')))
local macro_rules | `(tactic| walk_at "call ref") => `(tactic| (k_here; (with_reducible show wpAny _ _ (call (Value.ref 43) _) _ _ _); k_dflt (refine' setitem_new_G (n := 3) ?cx ?F ?N ?U1 ?mx ?mdx ?hd1 ?hf ?hk ?hc ?hfit ?hlt ?lo ?_; (case cx => walk_at "ruc cx"); (case F => k_asm); (case N => k_asm); (case mx => k_mem); (case mdx => k_mem); (case U1 => k_updF); (case hd1 => assumption); (case hf => assumption); (case hk => assumption); (case hc => assumption); (case hfit => assumption); (case hlt => ((repeat' refine And.intro ?_ ?_) <;> omega)); (case lo => assumption)); intro h' o' kvs' tk' F' N' hdN hfN; (try dsimp only at N')))
local macro_rules | `(tactic| walk_at "call ref") => `(tactic| (k_here; (with_reducible show wpAny _ _ (call (Value.ref 43) _) _ _ _); k_dflt (refine' setitem_old_G (n := 3) ?cx ?F ?N ?U1 ?U2 ?mx ?mdx ?mc ?hd1 ?hf ?hk ?hc ?hI ?hT ?hoT ?hlt ?lo ?hD ?hs ?_; (case cx => walk_at "ruc cx"); (case F => k_asm); (case N => k_asm); (case mx => k_mem); (case mdx => k_mem); (case hD => assumption); (case U1 => k_updF); (case U2 => (intro o'; (try dsimp only); k_updF)); (case mc => k_mem); (case hoT => assumption); (case hI => assumption); (case hd1 => assumption); (case hf => assumption); (case hk => assumption); (case hc => assumption); (case hT => omega); (case hlt => ((repeat' refine And.intro ?_ ?_) <;> omega)); (case lo => assumption); (case hs => (intro p hp'; refine ⟨by k_mem, ?_, ?_⟩ <;> (revert p; assumption)))); intro h' o' kvs' vsT' nT' tk' F' N' hdN hfN hTN; (try dsimp only at N')))
local macro_rules | `(tactic| walk_at "call ref") => `(tactic| (k_here; (with_reducible show wpAny _ _ (call (Value.ref 43) _) _ _ _); k_dflt (refine' setitem_full_G (n := 3) ?cx ?F ?N ?U1 ?U2 ?mx ?mdx ?mc ?hd1 ?hf ?hk ?hc ?hfull ?hfst ?hI ?hT ?hoT ?hlt ?lo ?hD ?hs ?_; (case cx => walk_at "ruc cx"); (case F => k_asm); (case N => k_asm); (case mx => k_mem); (case mdx => k_mem); (case hD => assumption); (case U1 => k_updF); (case U2 => (intro o'; (try dsimp only); k_updF)); (case mc => k_mem); (case hoT => assumption); (case hI => assumption); (case hd1 => assumption); (case hf => assumption); (case hk => assumption); (case hc => assumption); (case hfst => assumption); (case hfull => assumption); (case hT => omega); (case hlt => ((repeat' refine And.intro ?_ ?_) <;> omega)); (case lo => assumption); (case hs => (intro p hp'; refine ⟨by k_mem, ?_, ?_⟩ <;> (revert p; assumption)))); intro h' o' kvs' vsT' nT' tk' F' N' hdN hfN hTN; (try dsimp only at N')))
local macro_rules | `(tactic| walk_at "call ref") => `(tactic| (k_here; (with_reducible show wpAny _ _ (call (Value.ref 99) _) _ _ _); k_dflt (refine' taken_hit_G (n := 3) ?cx ?F ?N ?U1 ?U2 ?mx ?mdx ?mc ?hd1 ?hf ?hk ?hc ?hI ?hT ?hoT ?hlt ?lo ?hD ?hs ?_; (case cx => walk_at "ruc cx"); (case F => k_asm); (case N => k_asm); (case mx => k_mem); (case mdx => k_mem); (case hD => assumption); (case U1 => k_updF); (case U2 => (intro o'; (try dsimp only); k_updF)); (case mc => k_mem); (case hoT => assumption); (case hI => assumption); (case hd1 => assumption); (case hf => assumption); (case hk => assumption); (case hc => assumption); (case hT => omega); (case hlt => ((repeat' refine And.intro ?_ ?_) <;> omega)); (case lo => assumption); (case hs => (intro p hp'; refine ⟨by k_mem, ?_, ?_⟩ <;> (revert p; assumption)))); intro h' o' kvs' vsT' nT' tk' F' N' hdN hfN hTN; (try dsimp only at N')))
local macro_rules | `(tactic| walk_at "call ref") => `(tactic| (k_here; (with_reducible show wpAny _ _ (call (Value.ref 99) _) _ _ _); k_dflt (refine' taken_miss_G (n := 3) ?cx ?F ?N ?md ?mx ?mdx ?hd1 ?hf ?hk ?hc ?hlt ?lo ?_; (case cx => walk_at "ruc cx"); (case F => k_asm); (case N => k_asm); (case mx => k_mem); (case mdx => k_mem); (case md => k_mem); (case hd1 => assumption); (case hf => assumption); (case hk => assumption); (case hc => assumption); (case hlt => ((repeat' refine And.intro ?_ ?_) <;> omega)); (case lo => assumption)); intro h' tk' F' N'))
local macro_rules | `(tactic| walk_at "call ref") => `(tactic| (k_here; (with_reducible show wpAny _ _ (call (Value.ref 92) _) _ _ _); k_dflt (refine' got_miss_G (n := 3) ?cx ?F ?N ?md ?mx ?mdx ?hd1 ?hf ?hk ?hc ?hlt ?lo ?_; (case cx => walk_at "ruc cx"); (case F => k_asm); (case N => k_asm); (case mx => k_mem); (case mdx => k_mem); (case md => k_mem); (case hd1 => assumption); (case hf => assumption); (case hk => assumption); (case hc => assumption); (case hlt => ((repeat' refine And.intro ?_ ?_) <;> omega)); (case lo => assumption)); intro B' nB' h' tk' F' N' l1; (try k_lt l1)))
local macro_rules | `(tactic| walk_at "call ref") => `(tactic| (k_here; (with_reducible show wpAny _ _ (call (Value.ref 92) _) _ _ _); k_dflt (refine' got_hit_G (n := 3) ?cx ?F ?N ?U1 ?mx ?mdx ?hd1 ?hf ?hk ?hc ?hlt ?lo ?_; (case cx => walk_at "ruc cx"); (case F => k_asm); (case N => k_asm); (case mx => k_mem); (case mdx => k_mem); (case U1 => k_updF); (case hd1 => assumption); (case hf => assumption); (case hk => assumption); (case hc => assumption); (case hlt => ((repeat' refine And.intro ?_ ?_) <;> omega)); (case lo => assumption)); intro B' nB' h' o' kvs' t' tk' F' N' l1 hdN hfN; (try dsimp only at N'); (try k_lt l1)))
local macro_rules | `(tactic| walk_at "call ref") => `(tactic| (k_here; (with_reducible show wpAny _ _ (call (Value.ref 71) _) _ _ _); k_dflt (refine' clear_G (n := 3) ?cx ?F ?N ?U1 ?U2 ?mx ?mdx ?mc ?hd1 ?hf ?hc ?hI ?hT ?hoT ?hlt ?lo ?hD ?hs ?_; (case cx => walk_at "ruc cx"); (case F => k_asm); (case N => k_asm); (case mx => k_mem); (case mdx => k_mem); (case hD => assumption); (case U1 => k_updF); (case U2 => (intro o'; (try dsimp only); k_updF)); (case mc => k_mem); (case hoT => assumption); (case hI => assumption); (case hd1 => assumption); (case hf => assumption); (case hc => assumption); (case hT => omega); (case hlt => ((repeat' refine And.intro ?_ ?_) <;> omega)); (case lo => assumption); (case hs => (intro p hp'; refine ⟨by k_mem, ?_, ?_⟩ <;> (revert p; assumption)))); intro h' o' kvs' vsT' nT' tk' F' N' hdN hfN hTN; (try dsimp only at N')))
local macro_rules | `(tactic| walk_at "inplaceOp Add ref") => `(tactic| (k_here; k_dflt (refine' iadd_lists ?F ?N ?U ?mb ?hz ?_; (case F => k_asm); (case N => k_asm); (case U => k_updF); (case mb => k_mem); (case hz => omega)); intro h' n' F' N'; (try dsimp only at N')))
local macro_rules | `(tactic| walk_at "binaryOp Add ref ref") => `(tactic| (k_here; k_dflt (refine' add_listsN ?F ?N ?ma ?mb ?hz ?_; (case F => k_asm); (case N => k_asm); (case ma => k_mem); (case mb => k_mem); (case hz => (simp only [List.length_cons, List.length_nil] <;> omega))); intro D' h' F' N' l1; (try k_lt l1)))
local macro_rules | `(tactic| walk_at "ite") => `(tactic| first | refine ite_pos (by assumption) ?_ | refine ite_neg (by assumption) ?_ | refine ite_pos (by omega) ?_ | refine ite_neg (by omega) ?_)
local macro_rules | `(tactic| walk_at "subscriptTail") => `(tactic| (k_here; (with_reducible show wpAny _ _ (subscriptTail _ _ (Value.ref _) (Value.int 0 _)) _ _ _); k_dflt (refine' head_item ?N ?hm ?_ ?hs ?hg; (case N => k_asm); (case hm => k_mem); (case hs => with_unfolding_all rfl); (case hg => (intro _; with_unfolding_all rfl)))))
local macro_rules | `(tactic| walk_at "subscriptTail Name Slice ref ref") => `(tactic| (k_here; k_dflt (refine' tail_slice ?F ?N ?hm ?hz ?_ ?hs ?ht; (case F => k_asm); (case N => k_asm); (case hm => k_mem); (case hz => (simp only [List.length_cons, List.length_append, List.length_nil]; omega)); (case hs => with_unfolding_all rfl); (case ht => (intro _; with_unfolding_all rfl))); intro D' h' F' N' l1; (try k_lt l1)))
local macro_rules | `(tactic| walk_at "call builtin:list.append") => `(tactic| (k_here; k_dflt (refine' append_K ?k1 ?k2 ?k3 ?_ ?z; (case k1 => k_asm); (case k2 => k_asm); (case k3 => k_upd); (case z => (rw [PySem.sizeLine_eq]; simp only [List.length_append, List.length_cons, List.length_nil, List.size_toArray]; omega)); k_whole); intro h' F' N'; (try k_sweep)))
local macro_rules | `(tactic| k_ne) => `(tactic| (refine neN ?_; (try dsimp only); first | assumption | exact Ne.symm (by assumption) | omega))
section
variable {w : World} {A₀ : Around} {h₀ : Heap} {L x dx d tL DU P NU I fa R H : Addr} {loose : List Str} {mean : ExcName → Option Value} {u mg mb : Str → Option Value} {D U n : Nat}
  {g : Option (List Code)} {s : Shared} {E : Value → Shared → Prop} {Q : Flow → Shared → Prop} {dv : Value} {t1 t2 t3 ts tp tk1 tk2 : Tok} {nn nd np nT nw nr nh : Nat} {o oT oK oC oI : Obj} {kvs : List (Int × Value)} {c : List (Int × Int)} {size pl kd key : Int} {sil : Bool} {tail : List (Addr × Obj)}
  {dvs pvs vsT ws rs hs : List Value} {due told : List Int}
theorem gotb_hit (cx : Cx 10 w A₀ h₀ h₀ [] (lawEnv L fa) L loose mean mg mb D U)
    (F : Fr h₀ L s.heap (fun y => if y = Str.ofString "rest" then some (.ref R) else if y = Str.ofString "held" then some (.ref H) else if y = Str.ofString "kind" then some (.int kd tk1) else if y = Str.ofString "place" then some (.int pl tp) else if y = Str.ofString "due" then some (.ref DU) else if y = Str.ofString "pairs" then some (.ref P) else if y = Str.ofString "silent" then some (.bool sil) else if y = Str.ofString "size" then some (.int size ts) else if y = Str.ofString "numbers" then some (.ref NU) else u y))
    (N : News h₀ L s.heap ((R, W.listOf rs.toArray nr) :: (H, W.listOf hs.toArray nh) :: (I, oI) :: (DU, W.listOf dvs.toArray nd) :: (P, W.listOf pvs.toArray np) :: (d, o) :: (x, instObj 81 dx) :: (dx, selfDict w t1 t2 t3 (.int size ts) dv d nn) :: (tL, W.listOf vsT.toArray nT) :: (NU, W.listOf ws.toArray nw) :: (L + 1 + 1 + 1, oT) :: (L + 1 + 1, oK) :: (L + 1, oC) :: tail))
    (hord : @LT.lt Nat _ (L + 1 + 1 + 1) NU ∧ @LT.lt Nat _ NU tL ∧ @LT.lt Nat _ tL dx ∧ @LT.lt Nat _ dx x ∧ @LT.lt Nat _ x d ∧ @LT.lt Nat _ d DU ∧ @LT.lt Nat _ DU I ∧ @Ne Nat P (L + 1 + 1) ∧ @Ne Nat P d ∧ @Ne Nat P tL ∧ @Ne Nat P DU ∧ @Ne Nat P I)
    (hoT : oT.data = .cell (some (.ref tL))) (hoC : oC.data = .cell (some (.ref x))) (hoK : oK.data = .cell (some (.int key tk2)))
    (hd1 : o.IsDictOf (PySem.intKind prg w) kvs) (hf : PyProof.V.FlatPairs PyData.int kvs (kdfD c)) (hc : c.length ≤ 100) (lo : (d == sysModules) = false)
    (hdue : IntsAre dvs due) (hduel : due.length ≤ 400) (htold : IntsAre vsT told) (htd : told = if sil then [] else due) (hp : PairsIn tail pvs c)
    (hD : DispS sil dv tL (L + 1 + 1 + 1) tail) (hofK : ∀ p ∈ tail, p.1 ≠ L + 1 + 1) (hofd : ∀ p ∈ tail, p.1 ≠ d) (hofT : ∀ p ∈ tail, p.1 ≠ tL) (hofU : ∀ p ∈ tail, p.1 ≠ DU) (hofI : ∀ p ∈ tail, p.1 ≠ I)
    (hHo : Off H L d tL DU I P) (hRo : Off R L d tL DU I P) (hRH : @Ne Nat R H) (hpl0 : 0 ≤ pl)
    (hrs : PairsIn tail rs (c.filter fun q => q.1 != key)) (hhs : PairsIn tail hs (c.filter fun q => q.1 == key)) (gd : Good c size) (hk0 : 0 ≤ key) (hk5 : key < 5) (hsz : size ≤ 4)
    (hn1 : ¬ ([0, 2, 3, 4].any fun x => x == kd) = true) (hkd : ([1, 5].any fun x => x == kd) = true) (hk : kdfHas c key = true)
    (h : ∀ h' tk' P' pvs' np' o' kvs' dvs' nd' vsT' nT' extra (u' : Str → Option Value), Fr h₀ L h' (fun y => if y = Str.ofString "due" then some (.ref DU) else if y = Str.ofString "pairs" then some (.ref P') else if y = Str.ofString "silent" then some (.bool sil) else if y = Str.ofString "size" then some (.int size ts) else if y = Str.ofString "numbers" then some (.ref NU) else u' y) →
      News h₀ L h' ((I, oI) :: (DU, W.listOf dvs'.toArray nd') :: (P', W.listOf pvs'.toArray np') :: (d, o') :: (x, instObj 81 dx) :: (dx, selfDict w t1 t2 t3 (.int size ts) dv d nn) :: (tL, W.listOf vsT'.toArray nT') :: (NU, W.listOf ws.toArray nw) :: (L + 1 + 1 + 1, oT) :: (L + 1 + 1, oK) :: (L + 1, oC) :: (extra ++ tail)) → PairsIn (extra ++ tail) pvs' ((c.filter fun q => q.1 != key) ++ [(key, kdfLook c key 0)]) → o'.IsDictOf (PySem.intKind prg w) kvs' → PyProof.V.FlatPairs PyData.int kvs' (kdfD ((c.filter fun q => q.1 != key) ++ [(key, kdfLook c key 0)])) → IntsAre dvs' (due) → IntsAre vsT' (if sil then [] else due) →
      (∀ p ∈ extra, p.1 ≠ L + 1 + 1 ∧ p.1 ≠ d ∧ p.1 ≠ tL ∧ p.1 ≠ DU ∧ p.1 ≠ I) → @Ne Nat P' (L + 1 + 1) → @Ne Nat P' d → @Ne Nat P' tL → @Ne Nat P' DU → @Ne Nat P' I →
      wpAny (model prg w) (Ar D U g (lawEnv L fa) []) (execs checks (lawEnv L fa)) Q E { s with heap := h', toks := tk' })
    : wpAny (model prg w) (Ar D U g (lawEnv L fa) []) (execs loopRest (lawEnv L fa)) Q E s := by
  obtain ⟨B, X, T, hf1, hk1, hDD, hU⟩ := cx
  obtain ⟨oH1, oH2, oH3, oH4, oH5, oH6⟩ := hHo
  obtain ⟨oR1, oR2, oR3, oR4, oR5, oR6⟩ := hRo
  obtain ⟨q1, q2, q3, q4, q5, q6, q7, q8, q9, q10, q11, q12⟩ := hord
  have hpl := hp.length
  have hrl := hrs.length
  have hhl := hhs.length
  have hss := gd.sz
  have htl : told.length ≤ 400 := by
    rw [htd]
    cases sil with
    | true => exact Nat.zero_le _
    | false => exact hduel
  have hz : ∀ ys : List Value, ys.length ≤ 100 → ys.toArray.size ≤ sizeLine := fun ys hy => by rw [List.size_toArray, PySem.sizeLine_eq]; omega
  have hlr := List.length_filter_le (fun q : Int × Int => q.1 != key) c
  have hlh := List.length_filter_le (fun q : Int × Int => q.1 == key) c
  have hz1 := hz rs (by omega)
  have hz2 := hz hs (by omega)
  have hz3 := hz pvs (by omega)
  dsimp only [lawEnv, loopRest, loopBody, List.drop, lawBody, lawScope, lawStmt, PySem.Challenge.pw_ew0039_01] at hf1 hk1 ⊢
  w_on
  have hfh := flt_hit gd.nd hk
  rw [hfh] at hhs
  have hhs0 := hhs
  cases hhs with
  | cons hm hr =>
  cases hr
  w_strict k_steps
  w_strict walk_at "ruc compU"
  refine' pm_rest hhs0 (fun t' k' v' t1' t2' nt' I' oI' C' oC' D' m' ys' h' tk' E' hm' hC' hx' F' N' off' ne' => ?_) (fun ys' hys' => ?_)
  · w_strict k_steps
    exact LCg.CompEnd.intro F' N' _ (fun p hp => hp) off' (Or.inr ⟨W.listOf [Value.ref _].toArray nh, by k_mem, rfl, nh, rfl⟩) ⟨rfl, _, rfl⟩
  have hyl : ys'.length ≤ 100 := by rw [hys'.length, List.length_map]; (first | omega | (simp only [List.length_cons, List.length_nil]; omega))
  have hdl := hdue.length
  intro DD hD0 tkD FD ND oD
  have oDU : @Ne Nat DD DU := Ne.symm (off1_mem oD (DU, W.listOf dvs.toArray nd) (by k_mem))
  w_strict k_steps
  rotate_left
  · rename ¬ _ = _ => hx
    exact absurd rfl hx
  (show wpAny _ _ _ _ _ _)
  rename Fr h₀ L _ _ => kF
  rename News h₀ L _ _ => kN
  rename Obj.IsDictOf _ _ _ => hdN
  rename PyProof.V.FlatPairs _ _ _ => hfN
  have hP := mem_of kN (p := (_, W.listOf (rs ++ [Value.ref _]).toArray 0)) (by k_mem)
  refine' h _ _ (elt hP).1 _ 0 _ _ _ _ _ _ [] _ (canonF kF rfl rfl rfl rfl rfl) ?nn (hrs.append hhs0) hdN (by rw [← put_del]; exact hfN) hdue (told_same htold htd) (fun p hp => nomatch hp) ?b1 ?b2 ?b3 ?b4 ?b5
  case nn => (intro p hp; (repeat (rcases List.mem_cons.mp hp with rfl | hp; (focus exact kN _ (by k_mem)))); exact kN _ (by k_mem))
  case b1 => (try dsimp only [elt]); (first | assumption | omega)
  case b2 => (try dsimp only [elt]); (first | assumption | omega)
  case b3 => (try dsimp only [elt]); (first | assumption | omega)
  case b4 => (try dsimp only [elt]); (first | assumption | omega)
  case b5 => (try dsimp only [elt]); (first | assumption | omega)
end
end Ruc
end
section
open PySem PySem.W PySem.Calls PySem.Spec PyProof.Rows
set_option maxHeartbeats 1500000
namespace Ruc
theorem fillRu16 : PySem.Challenge.rw_ew0039_01.row.prog = PySem.Challenge.rw_ew0039_01.row.prog ∧ hd.heap_39 = hd.heap_39 := by k_fill; exact ⟨rfl, rfl⟩
local macro_rules | `(tactic| k_room) => `(tactic| (simp only [depth_under_make, depth_under_kw, depth_in1, depth_deeper, depth_caller, Ar]; omega))
local macro_rules | `(tactic| k_mem) => `(tactic| assumption)
local macro_rules | `(tactic| k_all) => `(tactic| assumption)
local macro_rules | `(tactic| walk_at "ruc enter") => `(tactic| (refine wpAny_call ?_; (refine' code_def ?B ?F ?X ?N ?T rfl ?f1 ?f2 ?k6 ?k7 ?k8 ?k9 ?kB ?_ ?c2 ?c3 ?c4 ?c5; (case B => assumption); (case F => assumption); (case X => assumption); (case N => assumption); (case T => assumption); (case f1 => assumption); (case f2 => assumption); (case k6 => k_is); (case k7 => k_is); (case k8 => k_room); (case k9 => exact BindsTo.of_eq rfl); (case c5 => decide); (case kB => exact locs rfl); (case c2 => exact rfl); (case c3 => exact rfl); (case c4 => exact rfl); k_whole; intro g' L' h' FG' F' N' B' X' T'; (try dsimp only); (try k_lift B'); (try k_fold))))
local macro_rules | `(tactic| walk_at "ruc cx") => `(tactic| exact ⟨by assumption, by assumption, by assumption, rfl, rfl, by (first | omega | (dsimp only [Ar]; omega) | (simp only [depth_deeper, depth_in1, Around.deeper_units, Around.in1_units, Ar]; omega)), by (first | omega | (dsimp only [Ar]; omega) | (simp only [depth_deeper, depth_in1, Around.deeper_units, Around.in1_units, Ar]; omega))⟩)
local macro_rules | `(tactic| walk_at "call ref") => `(tactic| (k_here; (with_reducible show wpAny _ _ (call (Value.ref 57) _) _ _ _); k_dflt (refine' len_G (n := 3) ?cx ?F ?N ?md ?mx ?mdx ?hd1 ?hf ?hc ?lo ?_; (case cx => walk_at "ruc cx"); (case F => k_asm); (case N => k_asm); (case mx => k_mem); (case mdx => k_mem); (case md => k_mem); (case hd1 => assumption); (case hf => assumption); (case hc => assumption); (case lo => assumption)); intro h' t' tk' F' N'; (try dsimp only [PySem.W.LenBack]); (try (refine ⟨⟨by omega, by omega⟩, ?_⟩))))
local macro_rules | `(tactic| walk_at "call ref") => `(tactic| (k_here; (with_reducible show wpAny _ _ (call (Value.ref 78) _) _ _ _); k_dflt (refine' keys_G (n := 3) ?cx ?F ?N ?md ?mx ?mdx ?hd1 ?hf ?hc ?hlt ?lo ?_; (case cx => walk_at "ruc cx"); (case F => k_asm); (case N => k_asm); (case mx => k_mem); (case mdx => k_mem); (case md => k_mem); (case hd1 => assumption); (case hf => assumption); (case hc => assumption); (case hlt => (refine ⟨?_, ?_⟩ <;> omega)); (case lo => assumption)); intro S' h' so' tk' F' N' l1 hSK; (try k_lt l1)))
local macro_rules | `(tactic| walk_at "call ref") => `(tactic| (k_here; (with_reducible show wpAny _ _ (call (Value.ref 106) _) _ _ _); k_dflt (refine' walked_G (n := 3) ?cx ?F ?N ?mx ?mdx ?_; (case cx => walk_at "ruc cx"); (case F => k_asm); (case N => k_asm); (case mx => k_mem); (case mdx => k_mem)); intro h' tk' F' N'))
local macro_rules | `(tactic| walk_at "call builtin:len") => `(tactic| (k_here; (with_reducible show wpAny _ _ (call (Value.builtin "len") [Value.ref _]) _ _ _); k_dflt (refine' kst_len ?k1 ?k2 ?k3 ?k4 ?_; (case k1 => k_asm); (case k2 => k_mem); (case k3 => (first | assumption | exact len_snoc _ _ | exact len_cons_snoc _ _ _)); (case k4 => omega); k_whole)))
local macro_rules | `(tactic| walk_at "compareOp NotEq ref ref") => `(tactic| (k_here; k_dflt (refine' ne_ints_same ?N ?ma ?mb ?ia ?ib ?hu ?_; (case N => k_asm); (case ma => k_mem); (case mb => k_mem); (case ia => assumption); (case ib => assumption); (case hu => (first | omega | (dsimp only [Ar]; omega))))))
local macro_rules | `(tactic| walk_at "compareOp NotEq ref ref") => `(tactic| (k_here; k_dflt (refine' ne_sets_N ?N ?ma ?mb ?sa ?sb ?hl ?hu ?_; (case N => k_asm); (case ma => k_mem); (case mb => k_mem); (case sa => assumption); (case sb => assumption); (case hl => assumption); (case hu => (dsimp only [Ar]; omega)))))
local macro_rules | `(tactic| walk_at "eval SetComp") => `(tactic| (refine stop_here ?_))
local macro_rules | `(tactic| walk_at "ruc compS") => `(tactic| ((show wpAny _ _ _ _ _ _); k_dflt (refine' SetComp_S (cl := []) ?F ?a1 ?a2 ?a3 ?a4 ?a5 ?_ ?a6; (case F => k_asm); (case a1 => with_unfolding_all rfl); (case a2 => decide); (case a3 => rfl); (case a4 => decide); (case a5 => rfl); (case a6 => intro _; rfl)); walk1; (refine' CompSrcS.ledger ?a1 ?a2 ?a3 ?a4 ?a5 ?_; (case a1 => rfl); (case a2 => k_asm); (case a3 => k_asm); (case a4 => k_mem); (case a5 => assumption); intro g')))
local macro_rules | `(tactic| walk_at "execs cons") => `(tactic| ((with_reducible show wpAny _ _ (execs (Stmt.If (Expr.BoolOp _ _ _) _ _ _ :: Stmt.If (Expr.BoolOp _ _ _) _ _ _ :: []) _) _ _ _); (refine stop_here ?_)))
local macro_rules | `(tactic| walk_at "exec Assign cons ListComp") => `(tactic| (refine stop_here ?_))
local macro_rules | `(tactic| walk_at "eval ListComp") => `(tactic| (refine stop_here ?_))
local macro_rules | `(tactic| walk_at "ruc compU") => `(tactic| ((show wpAny _ _ _ _ _ _); k_dflt (refine' LCg.ListComp_U ?F ?a1 ?a2 ?a3 ?a4 ?a5 ?_ ?a6; (case F => k_asm); (case a1 => with_unfolding_all rfl); (case a2 => decide); (case a3 => rfl); (case a4 => decide); (case a5 => rfl); (case a6 => intro _; rfl)); walk1; (refine' LCg.CompSrc.ledger ?a1 ?a2 ?a3 ?a4 ?a5 ?_; (case a1 => rfl); (case a2 => k_asm); (case a3 => k_asm); (case a4 => k_mem); (case a5 => assumption); intro g')))
local macro_rules | `(tactic| walk_at "call ref") => `(tactic| (k_here; (with_reducible show wpAny _ _ (call (Value.ref 43) _) _ _ _); k_dflt (refine' setitem_new_G (n := 3) ?cx ?F ?N ?U1 ?mx ?mdx ?hd1 ?hf ?hk ?hc ?hfit ?hlt ?lo ?_; (case cx => walk_at "ruc cx"); (case F => k_asm); (case N => k_asm); (case mx => k_mem); (case mdx => k_mem); (case U1 => k_updF); (case hd1 => assumption); (case hf => assumption); (case hk => assumption); (case hc => assumption); (case hfit => assumption); (case hlt => ((repeat' refine And.intro ?_ ?_) <;> omega)); (case lo => assumption)); intro h' o' kvs' tk' F' N' hdN hfN; (try dsimp only at N')))
local macro_rules | `(tactic| walk_at "call ref") => `(tactic| (k_here; (with_reducible show wpAny _ _ (call (Value.ref 43) _) _ _ _); k_dflt (refine' setitem_old_G (n := 3) ?cx ?F ?N ?U1 ?U2 ?mx ?mdx ?mc ?hd1 ?hf ?hk ?hc ?hI ?hT ?hoT ?hlt ?lo ?hD ?hs ?_; (case cx => walk_at "ruc cx"); (case F => k_asm); (case N => k_asm); (case mx => k_mem); (case mdx => k_mem); (case hD => assumption); (case U1 => k_updF); (case U2 => (intro o'; (try dsimp only); k_updF)); (case mc => k_mem); (case hoT => assumption); (case hI => assumption); (case hd1 => assumption); (case hf => assumption); (case hk => assumption); (case hc => assumption); (case hT => omega); (case hlt => ((repeat' refine And.intro ?_ ?_) <;> omega)); (case lo => assumption); (case hs => (intro p hp'; refine ⟨by k_mem, ?_, ?_⟩ <;> (revert p; assumption)))); intro h' o' kvs' vsT' nT' tk' F' N' hdN hfN hTN; (try dsimp only at N')))
local macro_rules | `(tactic| walk_at "call ref") => `(tactic| (k_here; (with_reducible show wpAny _ _ (call (Value.ref 43) _) _ _ _); k_dflt (refine' setitem_full_G (n := 3) ?cx ?F ?N ?U1 ?U2 ?mx ?mdx ?mc ?hd1 ?hf ?hk ?hc ?hfull ?hfst ?hI ?hT ?hoT ?hlt ?lo ?hD ?hs ?_; (case cx => walk_at "ruc cx"); (case F => k_asm); (case N => k_asm); (case mx => k_mem); (case mdx => k_mem); (case hD => assumption); (case U1 => k_updF); (case U2 => (intro o'; (try dsimp only); k_updF)); (case mc => k_mem); (case hoT => assumption); (case hI => assumption); (case hd1 => assumption); (case hf => assumption); (case hk => assumption); (case hc => assumption); (case hfst => assumption); (case hfull => assumption); (case hT => omega); (case hlt => ((repeat' refine And.intro ?_ ?_) <;> omega)); (case lo => assumption); (case hs => (intro p hp'; refine ⟨by k_mem, ?_, ?_⟩ <;> (revert p; assumption)))); intro h' o' kvs' vsT' nT' tk' F' N' hdN hfN hTN; (try dsimp only at N')))
local macro_rules | `(tactic| walk_at "call ref") => `(tactic| (k_here; (with_reducible show wpAny _ _ (call (Value.ref 99) _) _ _ _); k_dflt (refine' taken_hit_G (n := 3) ?cx ?F ?N ?U1 ?U2 ?mx ?mdx ?mc ?hd1 ?hf ?hk ?hc ?hI ?hT ?hoT ?hlt ?lo ?hD ?hs ?_; (case cx => walk_at "ruc cx"); (case F => k_asm); (case N => k_asm); (case mx => k_mem); (case mdx => k_mem); (case hD => assumption); (case U1 => k_updF); (case U2 => (intro o'; (try dsimp only); k_updF)); (case mc => k_mem); (case hoT => assumption); (case hI => assumption); (case hd1 => assumption); (case hf => assumption); (case hk => assumption); (case hc => assumption); (case hT => omega); (case hlt => ((repeat' refine And.intro ?_ ?_) <;> omega)); (case lo => assumption); (case hs => (intro p hp'; refine ⟨by k_mem, ?_, ?_⟩ <;> (revert p; assumption)))); intro h' o' kvs' vsT' nT' tk' F' N' hdN hfN hTN; (try dsimp only at N')))
local macro_rules | `(tactic| walk_at "call ref") => `(tactic| (k_here; (with_reducible show wpAny _ _ (call (Value.ref 99) _) _ _ _); k_dflt (refine' taken_miss_G (n := 3) ?cx ?F ?N ?md ?mx ?mdx ?hd1 ?hf ?hk ?hc ?hlt ?lo ?_; (case cx => walk_at "ruc cx"); (case F => k_asm); (case N => k_asm); (case mx => k_mem); (case mdx => k_mem); (case md => k_mem); (case hd1 => assumption); (case hf => assumption); (case hk => assumption); (case hc => assumption); (case hlt => ((repeat' refine And.intro ?_ ?_) <;> omega)); (case lo => assumption)); intro h' tk' F' N'))
local macro_rules | `(tactic| walk_at "call ref") => `(tactic| (k_here; (with_reducible show wpAny _ _ (call (Value.ref 92) _) _ _ _); k_dflt (refine' got_miss_G (n := 3) ?cx ?F ?N ?md ?mx ?mdx ?hd1 ?hf ?hk ?hc ?hlt ?lo ?_; (case cx => walk_at "ruc cx"); (case F => k_asm); (case N => k_asm); (case mx => k_mem); (case mdx => k_mem); (case md => k_mem); (case hd1 => assumption); (case hf => assumption); (case hk => assumption); (case hc => assumption); (case hlt => ((repeat' refine And.intro ?_ ?_) <;> omega)); (case lo => assumption)); intro B' nB' h' tk' F' N' l1; (try k_lt l1)))
local macro_rules | `(tactic| walk_at "call ref") => `(tactic| (k_here; (with_reducible show wpAny _ _ (call (Value.ref 92) _) _ _ _); k_dflt (refine' got_hit_G (n := 3) ?cx ?F ?N ?U1 ?mx ?mdx ?hd1 ?hf ?hk ?hc ?hlt ?lo ?_; (case cx => walk_at "ruc cx"); (case F => k_asm); (case N => k_asm); (case mx => k_mem); (case mdx => k_mem); (case U1 => k_updF); (case hd1 => assumption); (case hf => assumption); (case hk => assumption); (case hc => assumption); (case hlt => ((repeat' refine And.intro ?_ ?_) <;> omega)); (case lo => assumption)); intro B' nB' h' o' kvs' t' tk' F' N' l1 hdN hfN; (try dsimp only at N'); (try k_lt l1)))
local macro_rules | `(tactic| walk_at "call ref") => `(tactic| (k_here; (with_reducible show wpAny _ _ (call (Value.ref 71) _) _ _ _); k_dflt (refine' clear_G (n := 3) ?cx ?F ?N ?U1 ?U2 ?mx ?mdx ?mc ?hd1 ?hf ?hc ?hI ?hT ?hoT ?hlt ?lo ?hD ?hs ?_; (case cx => walk_at "ruc cx"); (case F => k_asm); (case N => k_asm); (case mx => k_mem); (case mdx => k_mem); (case hD => assumption); (case U1 => k_updF); (case U2 => (intro o'; (try dsimp only); k_updF)); (case mc => k_mem); (case hoT => assumption); (case hI => assumption); (case hd1 => assumption); (case hf => assumption); (case hc => assumption); (case hT => omega); (case hlt => ((repeat' refine And.intro ?_ ?_) <;> omega)); (case lo => assumption); (case hs => (intro p hp'; refine ⟨by k_mem, ?_, ?_⟩ <;> (revert p; assumption)))); intro h' o' kvs' vsT' nT' tk' F' N' hdN hfN hTN; (try dsimp only at N')))
local macro_rules | `(tactic| walk_at "inplaceOp Add ref") => `(tactic| (k_here; k_dflt (refine' iadd_lists ?F ?N ?U ?mb ?hz ?_; (case F => k_asm); (case N => k_asm); (case U => k_updF); (case mb => k_mem); (case hz => omega)); intro h' n' F' N'; (try dsimp only at N')))
local macro_rules | `(tactic| walk_at "binaryOp Add ref ref") => `(tactic| (k_here; k_dflt (refine' add_listsN ?F ?N ?ma ?mb ?hz ?_; (case F => k_asm); (case N => k_asm); (case ma => k_mem); (case mb => k_mem); (case hz => (simp only [List.length_cons, List.length_nil] <;> omega))); intro D' h' F' N' l1; (try k_lt l1)))
local macro_rules | `(tactic| walk_at "ite") => `(tactic| first | refine ite_pos (by assumption) ?_ | refine ite_neg (by assumption) ?_ | refine ite_pos (by omega) ?_ | refine ite_neg (by omega) ?_)
local macro_rules | `(tactic| walk_at "subscriptTail") => `(tactic| (k_here; (with_reducible show wpAny _ _ (subscriptTail _ _ (Value.ref _) (Value.int 0 _)) _ _ _); k_dflt (refine' head_item ?N ?hm ?_ ?hs ?hg; (case N => k_asm); (case hm => k_mem); (case hs => with_unfolding_all rfl); (case hg => (intro _; with_unfolding_all rfl)))))
local macro_rules | `(tactic| walk_at "subscriptTail Name Slice ref ref") => `(tactic| (k_here; k_dflt (refine' tail_slice ?F ?N ?hm ?hz ?_ ?hs ?ht; (case F => k_asm); (case N => k_asm); (case hm => k_mem); (case hz => (simp only [List.length_cons, List.length_append, List.length_nil]; omega)); (case hs => with_unfolding_all rfl); (case ht => (intro _; with_unfolding_all rfl))); intro D' h' F' N' l1; (try k_lt l1)))
local macro_rules | `(tactic| walk_at "call builtin:list.append") => `(tactic| (k_here; k_dflt (refine' append_K ?k1 ?k2 ?k3 ?_ ?z; (case k1 => k_asm); (case k2 => k_asm); (case k3 => k_upd); (case z => (rw [PySem.sizeLine_eq]; simp only [List.length_append, List.length_cons, List.length_nil, List.size_toArray]; omega)); k_whole); intro h' F' N'; (try k_sweep)))
local macro_rules | `(tactic| k_ne) => `(tactic| (refine neN ?_; (try dsimp only); first | assumption | exact Ne.symm (by assumption) | omega))
section
variable {w : World} {A₀ : Around} {h₀ : Heap} {L x dx d tL DU P NU I fa R H : Addr} {loose : List Str} {mean : ExcName → Option Value} {u mg mb : Str → Option Value} {D U n : Nat}
  {g : Option (List Code)} {s : Shared} {E : Value → Shared → Prop} {Q : Flow → Shared → Prop} {dv : Value} {t1 t2 t3 ts tp tk1 tk2 : Tok} {nn nd np nT nw nr nh : Nat} {o oT oK oC oI : Obj} {kvs : List (Int × Value)} {c : List (Int × Int)} {size pl kd key : Int} {sil : Bool} {tail : List (Addr × Obj)}
  {dvs pvs vsT ws rs hs : List Value} {due told : List Int}
theorem gotb_miss (cx : Cx 10 w A₀ h₀ h₀ [] (lawEnv L fa) L loose mean mg mb D U)
    (F : Fr h₀ L s.heap (fun y => if y = Str.ofString "rest" then some (.ref R) else if y = Str.ofString "held" then some (.ref H) else if y = Str.ofString "kind" then some (.int kd tk1) else if y = Str.ofString "place" then some (.int pl tp) else if y = Str.ofString "due" then some (.ref DU) else if y = Str.ofString "pairs" then some (.ref P) else if y = Str.ofString "silent" then some (.bool sil) else if y = Str.ofString "size" then some (.int size ts) else if y = Str.ofString "numbers" then some (.ref NU) else u y))
    (N : News h₀ L s.heap ((R, W.listOf rs.toArray nr) :: (H, W.listOf hs.toArray nh) :: (I, oI) :: (DU, W.listOf dvs.toArray nd) :: (P, W.listOf pvs.toArray np) :: (d, o) :: (x, instObj 81 dx) :: (dx, selfDict w t1 t2 t3 (.int size ts) dv d nn) :: (tL, W.listOf vsT.toArray nT) :: (NU, W.listOf ws.toArray nw) :: (L + 1 + 1 + 1, oT) :: (L + 1 + 1, oK) :: (L + 1, oC) :: tail))
    (hord : @LT.lt Nat _ (L + 1 + 1 + 1) NU ∧ @LT.lt Nat _ NU tL ∧ @LT.lt Nat _ tL dx ∧ @LT.lt Nat _ dx x ∧ @LT.lt Nat _ x d ∧ @LT.lt Nat _ d DU ∧ @LT.lt Nat _ DU I ∧ @Ne Nat P (L + 1 + 1) ∧ @Ne Nat P d ∧ @Ne Nat P tL ∧ @Ne Nat P DU ∧ @Ne Nat P I)
    (hoT : oT.data = .cell (some (.ref tL))) (hoC : oC.data = .cell (some (.ref x))) (hoK : oK.data = .cell (some (.int key tk2)))
    (hd1 : o.IsDictOf (PySem.intKind prg w) kvs) (hf : PyProof.V.FlatPairs PyData.int kvs (kdfD c)) (hc : c.length ≤ 100) (lo : (d == sysModules) = false)
    (hdue : IntsAre dvs due) (hduel : due.length ≤ 400) (htold : IntsAre vsT told) (htd : told = if sil then [] else due) (hp : PairsIn tail pvs c)
    (hD : DispS sil dv tL (L + 1 + 1 + 1) tail) (hofK : ∀ p ∈ tail, p.1 ≠ L + 1 + 1) (hofd : ∀ p ∈ tail, p.1 ≠ d) (hofT : ∀ p ∈ tail, p.1 ≠ tL) (hofU : ∀ p ∈ tail, p.1 ≠ DU) (hofI : ∀ p ∈ tail, p.1 ≠ I)
    (hHo : Off H L d tL DU I P) (hRo : Off R L d tL DU I P) (hRH : @Ne Nat R H) (hpl0 : 0 ≤ pl)
    (hrs : PairsIn tail rs (c.filter fun q => q.1 != key)) (hhs : PairsIn tail hs (c.filter fun q => q.1 == key)) (gd : Good c size) (hk0 : 0 ≤ key) (hk5 : key < 5) (hsz : size ≤ 4)
    (hn1 : ¬ ([0, 2, 3, 4].any fun x => x == kd) = true) (hkd : ([1, 5].any fun x => x == kd) = true) (hk : kdfHas c key = false)
    (h : ∀ h' tk' P' pvs' np' o' kvs' dvs' nd' vsT' nT' extra (u' : Str → Option Value), Fr h₀ L h' (fun y => if y = Str.ofString "due" then some (.ref DU) else if y = Str.ofString "pairs" then some (.ref P') else if y = Str.ofString "silent" then some (.bool sil) else if y = Str.ofString "size" then some (.int size ts) else if y = Str.ofString "numbers" then some (.ref NU) else u' y) →
      News h₀ L h' ((I, oI) :: (DU, W.listOf dvs'.toArray nd') :: (P', W.listOf pvs'.toArray np') :: (d, o') :: (x, instObj 81 dx) :: (dx, selfDict w t1 t2 t3 (.int size ts) dv d nn) :: (tL, W.listOf vsT'.toArray nT') :: (NU, W.listOf ws.toArray nw) :: (L + 1 + 1 + 1, oT) :: (L + 1 + 1, oK) :: (L + 1, oC) :: (extra ++ tail)) → PairsIn (extra ++ tail) pvs' (c) → o'.IsDictOf (PySem.intKind prg w) kvs' → PyProof.V.FlatPairs PyData.int kvs' (kdfD (c)) → IntsAre dvs' (due) → IntsAre vsT' (if sil then [] else due) →
      (∀ p ∈ extra, p.1 ≠ L + 1 + 1 ∧ p.1 ≠ d ∧ p.1 ≠ tL ∧ p.1 ≠ DU ∧ p.1 ≠ I) → @Ne Nat P' (L + 1 + 1) → @Ne Nat P' d → @Ne Nat P' tL → @Ne Nat P' DU → @Ne Nat P' I →
      wpAny (model prg w) (Ar D U g (lawEnv L fa) []) (execs checks (lawEnv L fa)) Q E { s with heap := h', toks := tk' })
    : wpAny (model prg w) (Ar D U g (lawEnv L fa) []) (execs loopRest (lawEnv L fa)) Q E s := by
  obtain ⟨B, X, T, hf1, hk1, hDD, hU⟩ := cx
  obtain ⟨oH1, oH2, oH3, oH4, oH5, oH6⟩ := hHo
  obtain ⟨oR1, oR2, oR3, oR4, oR5, oR6⟩ := hRo
  obtain ⟨q1, q2, q3, q4, q5, q6, q7, q8, q9, q10, q11, q12⟩ := hord
  have hpl := hp.length
  have hrl := hrs.length
  have hhl := hhs.length
  have hss := gd.sz
  have htl : told.length ≤ 400 := by
    rw [htd]
    cases sil with
    | true => exact Nat.zero_le _
    | false => exact hduel
  have hz : ∀ ys : List Value, ys.length ≤ 100 → ys.toArray.size ≤ sizeLine := fun ys hy => by rw [List.size_toArray, PySem.sizeLine_eq]; omega
  have hlr := List.length_filter_le (fun q : Int × Int => q.1 != key) c
  have hlh := List.length_filter_le (fun q : Int × Int => q.1 == key) c
  have hz1 := hz rs (by omega)
  have hz2 := hz hs (by omega)
  have hz3 := hz pvs (by omega)
  dsimp only [lawEnv, loopRest, loopBody, List.drop, lawBody, lawScope, lawStmt, PySem.Challenge.pw_ew0039_01] at hf1 hk1 ⊢
  w_on
  have hfh := flt_miss hk
  rw [hfh.1] at hhs
  rw [hfh.2] at hrs
  have hhs0 := hhs
  cases hhs
  w_strict k_steps
  w_strict walk_at "ruc compU"
  refine' pm_rest hhs0 (fun t' k' v' t1' t2' nt' I' oI' C' oC' D' m' ys' h' tk' E' hm' hC' hx' F' N' off' ne' => ?_) (fun ys' hys' => ?_)
  · w_strict k_steps
    exact LCg.CompEnd.intro F' N' _ (fun p hp => hp) off' (Or.inr ⟨W.listOf [].toArray nh, by k_mem, rfl, nh, rfl⟩) ⟨rfl, _, rfl⟩
  have hyl : ys'.length ≤ 100 := by rw [hys'.length, List.length_map]; (first | omega | (simp only [List.length_cons, List.length_nil]; omega))
  have hdl := hdue.length
  intro DD hD0 tkD FD ND oD
  have oDU : @Ne Nat DD DU := Ne.symm (off1_mem oD (DU, W.listOf dvs.toArray nd) (by k_mem))
  w_strict k_steps
  (show wpAny _ _ _ _ _ _)
  rename Fr h₀ L _ _ => kF
  rename News h₀ L _ _ => kN
  rename Obj.IsDictOf _ _ _ => hdN
  rename PyProof.V.FlatPairs _ _ _ => hfN
  have hP := mem_of kN (p := (_, W.listOf (rs ++ ([] : List Value)).toArray 0)) (by k_mem)
  refine' h _ _ (elt hP).1 (rs ++ []) 0 _ _ _ _ _ _ [] _ (canonF kF rfl rfl rfl rfl rfl) ?nn (by rw [List.append_nil]; exact hrs) hdN hfN hdue (told_same htold htd) (fun p hp => nomatch hp) ?b1 ?b2 ?b3 ?b4 ?b5
  case nn => (intro p hp; (repeat (rcases List.mem_cons.mp hp with rfl | hp; (focus exact kN _ (by k_mem)))); exact kN _ (by k_mem))
  case b1 => (try dsimp only [elt]); (first | assumption | omega)
  case b2 => (try dsimp only [elt]); (first | assumption | omega)
  case b3 => (try dsimp only [elt]); (first | assumption | omega)
  case b4 => (try dsimp only [elt]); (first | assumption | omega)
  case b5 => (try dsimp only [elt]); (first | assumption | omega)
end
end Ruc
end
section
open PySem PySem.W PySem.Calls PySem.Spec PyProof.Rows
set_option maxHeartbeats 1500000
namespace Ruc
theorem fillRu17 : PySem.Challenge.rw_ew0039_01.row.prog = PySem.Challenge.rw_ew0039_01.row.prog ∧ hd.heap_39 = hd.heap_39 := by k_fill; exact ⟨rfl, rfl⟩
local macro_rules | `(tactic| k_room) => `(tactic| (simp only [depth_under_make, depth_under_kw, depth_in1, depth_deeper, depth_caller, Ar]; omega))
local macro_rules | `(tactic| k_mem) => `(tactic| assumption)
local macro_rules | `(tactic| k_all) => `(tactic| assumption)
local macro_rules | `(tactic| walk_at "ruc enter") => `(tactic| (refine wpAny_call ?_; (refine' code_def ?B ?F ?X ?N ?T rfl ?f1 ?f2 ?k6 ?k7 ?k8 ?k9 ?kB ?_ ?c2 ?c3 ?c4 ?c5; (case B => assumption); (case F => assumption); (case X => assumption); (case N => assumption); (case T => assumption); (case f1 => assumption); (case f2 => assumption); (case k6 => k_is); (case k7 => k_is); (case k8 => k_room); (case k9 => exact BindsTo.of_eq rfl); (case c5 => decide); (case kB => exact locs rfl); (case c2 => exact rfl); (case c3 => exact rfl); (case c4 => exact rfl); k_whole; intro g' L' h' FG' F' N' B' X' T'; (try dsimp only); (try k_lift B'); (try k_fold))))
local macro_rules | `(tactic| walk_at "ruc cx") => `(tactic| exact ⟨by assumption, by assumption, by assumption, rfl, rfl, by (first | omega | (dsimp only [Ar]; omega) | (simp only [depth_deeper, depth_in1, Around.deeper_units, Around.in1_units, Ar]; omega)), by (first | omega | (dsimp only [Ar]; omega) | (simp only [depth_deeper, depth_in1, Around.deeper_units, Around.in1_units, Ar]; omega))⟩)
local macro_rules | `(tactic| walk_at "call ref") => `(tactic| (k_here; (with_reducible show wpAny _ _ (call (Value.ref 57) _) _ _ _); k_dflt (refine' len_G (n := 3) ?cx ?F ?N ?md ?mx ?mdx ?hd1 ?hf ?hc ?lo ?_; (case cx => walk_at "ruc cx"); (case F => k_asm); (case N => k_asm); (case mx => k_mem); (case mdx => k_mem); (case md => k_mem); (case hd1 => assumption); (case hf => assumption); (case hc => assumption); (case lo => assumption)); intro h' t' tk' F' N'; (try dsimp only [PySem.W.LenBack]); (try (refine ⟨⟨by omega, by omega⟩, ?_⟩))))
local macro_rules | `(tactic| walk_at "call ref") => `(tactic| (k_here; (with_reducible show wpAny _ _ (call (Value.ref 78) _) _ _ _); k_dflt (refine' keys_G (n := 3) ?cx ?F ?N ?md ?mx ?mdx ?hd1 ?hf ?hc ?hlt ?lo ?_; (case cx => walk_at "ruc cx"); (case F => k_asm); (case N => k_asm); (case mx => k_mem); (case mdx => k_mem); (case md => k_mem); (case hd1 => assumption); (case hf => assumption); (case hc => assumption); (case hlt => (refine ⟨?_, ?_⟩ <;> omega)); (case lo => assumption)); intro S' h' so' tk' F' N' l1 hSK; (try k_lt l1)))
local macro_rules | `(tactic| walk_at "call ref") => `(tactic| (k_here; (with_reducible show wpAny _ _ (call (Value.ref 106) _) _ _ _); k_dflt (refine' walked_G (n := 3) ?cx ?F ?N ?mx ?mdx ?_; (case cx => walk_at "ruc cx"); (case F => k_asm); (case N => k_asm); (case mx => k_mem); (case mdx => k_mem)); intro h' tk' F' N'))
local macro_rules | `(tactic| walk_at "call builtin:len") => `(tactic| (k_here; (with_reducible show wpAny _ _ (call (Value.builtin "len") [Value.ref _]) _ _ _); k_dflt (refine' kst_len ?k1 ?k2 ?k3 ?k4 ?_; (case k1 => k_asm); (case k2 => k_mem); (case k3 => (first | assumption | exact len_snoc _ _ | exact len_cons_snoc _ _ _)); (case k4 => omega); k_whole)))
local macro_rules | `(tactic| walk_at "compareOp NotEq ref ref") => `(tactic| (k_here; k_dflt (refine' ne_ints_same ?N ?ma ?mb ?ia ?ib ?hu ?_; (case N => k_asm); (case ma => k_mem); (case mb => k_mem); (case ia => assumption); (case ib => assumption); (case hu => (first | omega | (dsimp only [Ar]; omega))))))
local macro_rules | `(tactic| walk_at "compareOp NotEq ref ref") => `(tactic| (k_here; k_dflt (refine' ne_sets_N ?N ?ma ?mb ?sa ?sb ?hl ?hu ?_; (case N => k_asm); (case ma => k_mem); (case mb => k_mem); (case sa => assumption); (case sb => assumption); (case hl => assumption); (case hu => (dsimp only [Ar]; omega)))))
local macro_rules | `(tactic| walk_at "eval SetComp") => `(tactic| (refine stop_here ?_))
local macro_rules | `(tactic| walk_at "ruc compS") => `(tactic| ((show wpAny _ _ _ _ _ _); k_dflt (refine' SetComp_S (cl := []) ?F ?a1 ?a2 ?a3 ?a4 ?a5 ?_ ?a6; (case F => k_asm); (case a1 => with_unfolding_all rfl); (case a2 => decide); (case a3 => rfl); (case a4 => decide); (case a5 => rfl); (case a6 => intro _; rfl)); walk1; (refine' CompSrcS.ledger ?a1 ?a2 ?a3 ?a4 ?a5 ?_; (case a1 => rfl); (case a2 => k_asm); (case a3 => k_asm); (case a4 => k_mem); (case a5 => assumption); intro g')))
local macro_rules | `(tactic| walk_at "execs cons") => `(tactic| ((with_reducible show wpAny _ _ (execs (Stmt.If (Expr.BoolOp _ _ _) _ _ _ :: Stmt.If (Expr.BoolOp _ _ _) _ _ _ :: []) _) _ _ _); (refine stop_here ?_)))
local macro_rules | `(tactic| walk_at "exec Assign cons ListComp") => `(tactic| (refine stop_here ?_))
local macro_rules | `(tactic| walk_at "eval ListComp") => `(tactic| (refine stop_here ?_))
local macro_rules | `(tactic| walk_at "ruc compU") => `(tactic| ((show wpAny _ _ _ _ _ _); k_dflt (refine' LCg.ListComp_U ?F ?a1 ?a2 ?a3 ?a4 ?a5 ?_ ?a6; (case F => k_asm); (case a1 => with_unfolding_all rfl); (case a2 => decide); (case a3 => rfl); (case a4 => decide); (case a5 => rfl); (case a6 => intro _; rfl)); walk1; (refine' LCg.CompSrc.ledger ?a1 ?a2 ?a3 ?a4 ?a5 ?_; (case a1 => rfl); (case a2 => k_asm); (case a3 => k_asm); (case a4 => k_mem); (case a5 => assumption); intro g')))
local macro_rules | `(tactic| walk_at "call ref") => `(tactic| (k_here; (with_reducible show wpAny _ _ (call (Value.ref 43) _) _ _ _); k_dflt (refine' setitem_new_G (n := 3) ?cx ?F ?N ?U1 ?mx ?mdx ?hd1 ?hf ?hk ?hc ?hfit ?hlt ?lo ?_; (case cx => walk_at "ruc cx"); (case F => k_asm); (case N => k_asm); (case mx => k_mem); (case mdx => k_mem); (case U1 => k_updF); (case hd1 => assumption); (case hf => assumption); (case hk => assumption); (case hc => assumption); (case hfit => assumption); (case hlt => ((repeat' refine And.intro ?_ ?_) <;> omega)); (case lo => assumption)); intro h' o' kvs' tk' F' N' hdN hfN; (try dsimp only at N')))
local macro_rules | `(tactic| walk_at "call ref") => `(tactic| (k_here; (with_reducible show wpAny _ _ (call (Value.ref 43) _) _ _ _); k_dflt (refine' setitem_old_G (n := 3) ?cx ?F ?N ?U1 ?U2 ?mx ?mdx ?mc ?hd1 ?hf ?hk ?hc ?hI ?hT ?hoT ?hlt ?lo ?hD ?hs ?_; (case cx => walk_at "ruc cx"); (case F => k_asm); (case N => k_asm); (case mx => k_mem); (case mdx => k_mem); (case hD => assumption); (case U1 => k_updF); (case U2 => (intro o'; (try dsimp only); k_updF)); (case mc => k_mem); (case hoT => assumption); (case hI => assumption); (case hd1 => assumption); (case hf => assumption); (case hk => assumption); (case hc => assumption); (case hT => omega); (case hlt => ((repeat' refine And.intro ?_ ?_) <;> omega)); (case lo => assumption); (case hs => (intro p hp'; refine ⟨by k_mem, ?_, ?_⟩ <;> (revert p; assumption)))); intro h' o' kvs' vsT' nT' tk' F' N' hdN hfN hTN; (try dsimp only at N')))
local macro_rules | `(tactic| walk_at "call ref") => `(tactic| (k_here; (with_reducible show wpAny _ _ (call (Value.ref 43) _) _ _ _); k_dflt (refine' setitem_full_G (n := 3) ?cx ?F ?N ?U1 ?U2 ?mx ?mdx ?mc ?hd1 ?hf ?hk ?hc ?hfull ?hfst ?hI ?hT ?hoT ?hlt ?lo ?hD ?hs ?_; (case cx => walk_at "ruc cx"); (case F => k_asm); (case N => k_asm); (case mx => k_mem); (case mdx => k_mem); (case hD => assumption); (case U1 => k_updF); (case U2 => (intro o'; (try dsimp only); k_updF)); (case mc => k_mem); (case hoT => assumption); (case hI => assumption); (case hd1 => assumption); (case hf => assumption); (case hk => assumption); (case hc => assumption); (case hfst => assumption); (case hfull => assumption); (case hT => omega); (case hlt => ((repeat' refine And.intro ?_ ?_) <;> omega)); (case lo => assumption); (case hs => (intro p hp'; refine ⟨by k_mem, ?_, ?_⟩ <;> (revert p; assumption)))); intro h' o' kvs' vsT' nT' tk' F' N' hdN hfN hTN; (try dsimp only at N')))
local macro_rules | `(tactic| walk_at "call ref") => `(tactic| (k_here; (with_reducible show wpAny _ _ (call (Value.ref 99) _) _ _ _); k_dflt (refine' taken_hit_G (n := 3) ?cx ?F ?N ?U1 ?U2 ?mx ?mdx ?mc ?hd1 ?hf ?hk ?hc ?hI ?hT ?hoT ?hlt ?lo ?hD ?hs ?_; (case cx => walk_at "ruc cx"); (case F => k_asm); (case N => k_asm); (case mx => k_mem); (case mdx => k_mem); (case hD => assumption); (case U1 => k_updF); (case U2 => (intro o'; (try dsimp only); k_updF)); (case mc => k_mem); (case hoT => assumption); (case hI => assumption); (case hd1 => assumption); (case hf => assumption); (case hk => assumption); (case hc => assumption); (case hT => omega); (case hlt => ((repeat' refine And.intro ?_ ?_) <;> omega)); (case lo => assumption); (case hs => (intro p hp'; refine ⟨by k_mem, ?_, ?_⟩ <;> (revert p; assumption)))); intro h' o' kvs' vsT' nT' tk' F' N' hdN hfN hTN; (try dsimp only at N')))
local macro_rules | `(tactic| walk_at "call ref") => `(tactic| (k_here; (with_reducible show wpAny _ _ (call (Value.ref 99) _) _ _ _); k_dflt (refine' taken_miss_G (n := 3) ?cx ?F ?N ?md ?mx ?mdx ?hd1 ?hf ?hk ?hc ?hlt ?lo ?_; (case cx => walk_at "ruc cx"); (case F => k_asm); (case N => k_asm); (case mx => k_mem); (case mdx => k_mem); (case md => k_mem); (case hd1 => assumption); (case hf => assumption); (case hk => assumption); (case hc => assumption); (case hlt => ((repeat' refine And.intro ?_ ?_) <;> omega)); (case lo => assumption)); intro h' tk' F' N'))
local macro_rules | `(tactic| walk_at "call ref") => `(tactic| (k_here; (with_reducible show wpAny _ _ (call (Value.ref 92) _) _ _ _); k_dflt (refine' got_miss_G (n := 3) ?cx ?F ?N ?md ?mx ?mdx ?hd1 ?hf ?hk ?hc ?hlt ?lo ?_; (case cx => walk_at "ruc cx"); (case F => k_asm); (case N => k_asm); (case mx => k_mem); (case mdx => k_mem); (case md => k_mem); (case hd1 => assumption); (case hf => assumption); (case hk => assumption); (case hc => assumption); (case hlt => ((repeat' refine And.intro ?_ ?_) <;> omega)); (case lo => assumption)); intro B' nB' h' tk' F' N' l1; (try k_lt l1)))
local macro_rules | `(tactic| walk_at "call ref") => `(tactic| (k_here; (with_reducible show wpAny _ _ (call (Value.ref 92) _) _ _ _); k_dflt (refine' got_hit_G (n := 3) ?cx ?F ?N ?U1 ?mx ?mdx ?hd1 ?hf ?hk ?hc ?hlt ?lo ?_; (case cx => walk_at "ruc cx"); (case F => k_asm); (case N => k_asm); (case mx => k_mem); (case mdx => k_mem); (case U1 => k_updF); (case hd1 => assumption); (case hf => assumption); (case hk => assumption); (case hc => assumption); (case hlt => ((repeat' refine And.intro ?_ ?_) <;> omega)); (case lo => assumption)); intro B' nB' h' o' kvs' t' tk' F' N' l1 hdN hfN; (try dsimp only at N'); (try k_lt l1)))
local macro_rules | `(tactic| walk_at "call ref") => `(tactic| (k_here; (with_reducible show wpAny _ _ (call (Value.ref 71) _) _ _ _); k_dflt (refine' clear_G (n := 3) ?cx ?F ?N ?U1 ?U2 ?mx ?mdx ?mc ?hd1 ?hf ?hc ?hI ?hT ?hoT ?hlt ?lo ?hD ?hs ?_; (case cx => walk_at "ruc cx"); (case F => k_asm); (case N => k_asm); (case mx => k_mem); (case mdx => k_mem); (case hD => assumption); (case U1 => k_updF); (case U2 => (intro o'; (try dsimp only); k_updF)); (case mc => k_mem); (case hoT => assumption); (case hI => assumption); (case hd1 => assumption); (case hf => assumption); (case hc => assumption); (case hT => omega); (case hlt => ((repeat' refine And.intro ?_ ?_) <;> omega)); (case lo => assumption); (case hs => (intro p hp'; refine ⟨by k_mem, ?_, ?_⟩ <;> (revert p; assumption)))); intro h' o' kvs' vsT' nT' tk' F' N' hdN hfN hTN; (try dsimp only at N')))
local macro_rules | `(tactic| walk_at "inplaceOp Add ref") => `(tactic| (k_here; k_dflt (refine' iadd_lists ?F ?N ?U ?mb ?hz ?_; (case F => k_asm); (case N => k_asm); (case U => k_updF); (case mb => k_mem); (case hz => omega)); intro h' n' F' N'; (try dsimp only at N')))
local macro_rules | `(tactic| walk_at "binaryOp Add ref ref") => `(tactic| (k_here; k_dflt (refine' add_listsN ?F ?N ?ma ?mb ?hz ?_; (case F => k_asm); (case N => k_asm); (case ma => k_mem); (case mb => k_mem); (case hz => (simp only [List.length_cons, List.length_nil] <;> omega))); intro D' h' F' N' l1; (try k_lt l1)))
local macro_rules | `(tactic| walk_at "ite") => `(tactic| first | refine ite_pos (by assumption) ?_ | refine ite_neg (by assumption) ?_ | refine ite_pos (by omega) ?_ | refine ite_neg (by omega) ?_)
local macro_rules | `(tactic| walk_at "subscriptTail") => `(tactic| (k_here; (with_reducible show wpAny _ _ (subscriptTail _ _ (Value.ref _) (Value.int 0 _)) _ _ _); k_dflt (refine' head_item ?N ?hm ?_ ?hs ?hg; (case N => k_asm); (case hm => k_mem); (case hs => with_unfolding_all rfl); (case hg => (intro _; with_unfolding_all rfl)))))
local macro_rules | `(tactic| walk_at "subscriptTail Name Slice ref ref") => `(tactic| (k_here; k_dflt (refine' tail_slice ?F ?N ?hm ?hz ?_ ?hs ?ht; (case F => k_asm); (case N => k_asm); (case hm => k_mem); (case hz => (simp only [List.length_cons, List.length_append, List.length_nil]; omega)); (case hs => with_unfolding_all rfl); (case ht => (intro _; with_unfolding_all rfl))); intro D' h' F' N' l1; (try k_lt l1)))
local macro_rules | `(tactic| walk_at "call builtin:list.append") => `(tactic| (k_here; k_dflt (refine' append_K ?k1 ?k2 ?k3 ?_ ?z; (case k1 => k_asm); (case k2 => k_asm); (case k3 => k_upd); (case z => (rw [PySem.sizeLine_eq]; simp only [List.length_append, List.length_cons, List.length_nil, List.size_toArray]; omega)); k_whole); intro h' F' N'; (try k_sweep)))
local macro_rules | `(tactic| k_ne) => `(tactic| (refine neN ?_; (try dsimp only); first | assumption | exact Ne.symm (by assumption) | omega))
section
variable {w : World} {A₀ : Around} {h₀ : Heap} {L x dx d tL DU P NU I fa R H : Addr} {loose : List Str} {mean : ExcName → Option Value} {u mg mb : Str → Option Value} {D U n : Nat}
  {g : Option (List Code)} {s : Shared} {E : Value → Shared → Prop} {Q : Flow → Shared → Prop} {dv : Value} {t1 t2 t3 ts tp tk1 tk2 : Tok} {nn nd np nT nw nr nh : Nat} {o oT oK oC oI : Obj} {kvs : List (Int × Value)} {c : List (Int × Int)} {size pl kd key : Int} {sil : Bool} {tail : List (Addr × Obj)}
  {dvs pvs vsT ws rs hs : List Value} {due told : List Int}
theorem takenb_hit (cx : Cx 10 w A₀ h₀ h₀ [] (lawEnv L fa) L loose mean mg mb D U)
    (F : Fr h₀ L s.heap (fun y => if y = Str.ofString "rest" then some (.ref R) else if y = Str.ofString "held" then some (.ref H) else if y = Str.ofString "kind" then some (.int kd tk1) else if y = Str.ofString "place" then some (.int pl tp) else if y = Str.ofString "due" then some (.ref DU) else if y = Str.ofString "pairs" then some (.ref P) else if y = Str.ofString "silent" then some (.bool sil) else if y = Str.ofString "size" then some (.int size ts) else if y = Str.ofString "numbers" then some (.ref NU) else u y))
    (N : News h₀ L s.heap ((R, W.listOf rs.toArray nr) :: (H, W.listOf hs.toArray nh) :: (I, oI) :: (DU, W.listOf dvs.toArray nd) :: (P, W.listOf pvs.toArray np) :: (d, o) :: (x, instObj 81 dx) :: (dx, selfDict w t1 t2 t3 (.int size ts) dv d nn) :: (tL, W.listOf vsT.toArray nT) :: (NU, W.listOf ws.toArray nw) :: (L + 1 + 1 + 1, oT) :: (L + 1 + 1, oK) :: (L + 1, oC) :: tail))
    (hord : @LT.lt Nat _ (L + 1 + 1 + 1) NU ∧ @LT.lt Nat _ NU tL ∧ @LT.lt Nat _ tL dx ∧ @LT.lt Nat _ dx x ∧ @LT.lt Nat _ x d ∧ @LT.lt Nat _ d DU ∧ @LT.lt Nat _ DU I ∧ @Ne Nat P (L + 1 + 1) ∧ @Ne Nat P d ∧ @Ne Nat P tL ∧ @Ne Nat P DU ∧ @Ne Nat P I)
    (hoT : oT.data = .cell (some (.ref tL))) (hoC : oC.data = .cell (some (.ref x))) (hoK : oK.data = .cell (some (.int key tk2)))
    (hd1 : o.IsDictOf (PySem.intKind prg w) kvs) (hf : PyProof.V.FlatPairs PyData.int kvs (kdfD c)) (hc : c.length ≤ 100) (lo : (d == sysModules) = false)
    (hdue : IntsAre dvs due) (hduel : due.length ≤ 400) (htold : IntsAre vsT told) (htd : told = if sil then [] else due) (hp : PairsIn tail pvs c)
    (hD : DispS sil dv tL (L + 1 + 1 + 1) tail) (hofK : ∀ p ∈ tail, p.1 ≠ L + 1 + 1) (hofd : ∀ p ∈ tail, p.1 ≠ d) (hofT : ∀ p ∈ tail, p.1 ≠ tL) (hofU : ∀ p ∈ tail, p.1 ≠ DU) (hofI : ∀ p ∈ tail, p.1 ≠ I)
    (hHo : Off H L d tL DU I P) (hRo : Off R L d tL DU I P) (hRH : @Ne Nat R H) (hpl0 : 0 ≤ pl)
    (hrs : PairsIn tail rs (c.filter fun q => q.1 != key)) (hhs : PairsIn tail hs (c.filter fun q => q.1 == key)) (gd : Good c size) (hk0 : 0 ≤ key) (hk5 : key < 5) (hsz : size ≤ 4)
    (hkd : kd = 6) (hk : kdfHas c key = true)
    (h : ∀ h' tk' P' pvs' np' o' kvs' dvs' nd' vsT' nT' extra (u' : Str → Option Value), Fr h₀ L h' (fun y => if y = Str.ofString "due" then some (.ref DU) else if y = Str.ofString "pairs" then some (.ref P') else if y = Str.ofString "silent" then some (.bool sil) else if y = Str.ofString "size" then some (.int size ts) else if y = Str.ofString "numbers" then some (.ref NU) else u' y) →
      News h₀ L h' ((I, oI) :: (DU, W.listOf dvs'.toArray nd') :: (P', W.listOf pvs'.toArray np') :: (d, o') :: (x, instObj 81 dx) :: (dx, selfDict w t1 t2 t3 (.int size ts) dv d nn) :: (tL, W.listOf vsT'.toArray nT') :: (NU, W.listOf ws.toArray nw) :: (L + 1 + 1 + 1, oT) :: (L + 1 + 1, oK) :: (L + 1, oC) :: (extra ++ tail)) → PairsIn (extra ++ tail) pvs' (c.filter fun q => q.1 != key) → o'.IsDictOf (PySem.intKind prg w) kvs' → PyProof.V.FlatPairs PyData.int kvs' (kdfD (c.filter fun q => q.1 != key)) → IntsAre dvs' (due ++ [kdfLook c key 0]) → IntsAre vsT' (if sil then [] else due ++ [kdfLook c key 0]) →
      (∀ p ∈ extra, p.1 ≠ L + 1 + 1 ∧ p.1 ≠ d ∧ p.1 ≠ tL ∧ p.1 ≠ DU ∧ p.1 ≠ I) → @Ne Nat P' (L + 1 + 1) → @Ne Nat P' d → @Ne Nat P' tL → @Ne Nat P' DU → @Ne Nat P' I →
      wpAny (model prg w) (Ar D U g (lawEnv L fa) []) (execs checks (lawEnv L fa)) Q E { s with heap := h', toks := tk' })
    : wpAny (model prg w) (Ar D U g (lawEnv L fa) []) (execs loopRest (lawEnv L fa)) Q E s := by
  obtain ⟨B, X, T, hf1, hk1, hDD, hU⟩ := cx
  obtain ⟨oH1, oH2, oH3, oH4, oH5, oH6⟩ := hHo
  obtain ⟨oR1, oR2, oR3, oR4, oR5, oR6⟩ := hRo
  obtain ⟨q1, q2, q3, q4, q5, q6, q7, q8, q9, q10, q11, q12⟩ := hord
  have hpl := hp.length
  have hrl := hrs.length
  have hhl := hhs.length
  have hss := gd.sz
  have htl : told.length ≤ 400 := by
    rw [htd]
    cases sil with
    | true => exact Nat.zero_le _
    | false => exact hduel
  have hz : ∀ ys : List Value, ys.length ≤ 100 → ys.toArray.size ≤ sizeLine := fun ys hy => by rw [List.size_toArray, PySem.sizeLine_eq]; omega
  have hlr := List.length_filter_le (fun q : Int × Int => q.1 != key) c
  have hlh := List.length_filter_le (fun q : Int × Int => q.1 == key) c
  have hz1 := hz rs (by omega)
  have hz2 := hz hs (by omega)
  have hz3 := hz pvs (by omega)
  dsimp only [lawEnv, loopRest, loopBody, List.drop, lawBody, lawScope, lawStmt, PySem.Challenge.pw_ew0039_01] at hf1 hk1 ⊢
  w_on
  have hfh := flt_hit gd.nd hk
  rw [hfh] at hhs
  have hhs0 := hhs
  cases hhs with
  | cons hm hr =>
  cases hr
  subst hkd
  w_strict k_steps
  w_strict walk_at "ruc compU"
  refine' pm_rest hhs0 (fun t' k' v' t1' t2' nt' I' oI' C' oC' D' m' ys' h' tk' E' hm' hC' hx' F' N' off' ne' => ?_) (fun ys' hys' => ?_)
  · w_strict k_steps
    exact LCg.CompEnd.intro F' N' _ (fun p hp => hp) off' (Or.inr ⟨W.listOf [Value.ref _].toArray nh, by k_mem, rfl, nh, rfl⟩) ⟨rfl, _, rfl⟩
  have hyl : ys'.length ≤ 100 := by rw [hys'.length, List.length_map]; (first | omega | (simp only [List.length_cons, List.length_nil]; omega))
  have hdl := hdue.length
  intro DD hD0 tkD FD ND oD
  have oDU : @Ne Nat DD DU := Ne.symm (off1_mem oD (DU, W.listOf dvs.toArray nd) (by k_mem))
  w_strict k_steps
  (show wpAny _ _ _ _ _ _)
  rename Fr h₀ L _ _ => kF
  rename News h₀ L _ _ => kN
  rename Obj.IsDictOf _ _ _ => hdN
  rename PyProof.V.FlatPairs _ _ _ => hfN
  rename Told sil _ told _ => hTN
  refine' h _ _ R rs nr _ _ _ _ _ _ [] _ (canonF kF rfl rfl rfl rfl rfl) ?nn hrs hdN (by rw [← del_flt]; exact hfN) (hdue.append hys') (told_up hTN htd) (fun p hp => nomatch hp) ?b1 ?b2 ?b3 ?b4 ?b5
  case nn => (intro p hp; (repeat (rcases List.mem_cons.mp hp with rfl | hp; (focus exact kN _ (by k_mem)))); exact kN _ (by k_mem))
  case b1 => (try dsimp only [elt]); (first | assumption | omega)
  case b2 => (try dsimp only [elt]); (first | assumption | omega)
  case b3 => (try dsimp only [elt]); (first | assumption | omega)
  case b4 => (try dsimp only [elt]); (first | assumption | omega)
  case b5 => (try dsimp only [elt]); (first | assumption | omega)
end
end Ruc
end
section
open PySem PySem.W PySem.Calls PySem.Spec PyProof.Rows
set_option maxHeartbeats 1500000
namespace Ruc
theorem fillRu18 : PySem.Challenge.rw_ew0039_01.row.prog = PySem.Challenge.rw_ew0039_01.row.prog ∧ hd.heap_39 = hd.heap_39 := by k_fill; exact ⟨rfl, rfl⟩
local macro_rules | `(tactic| k_room) => `(tactic| (simp only [depth_under_make, depth_under_kw, depth_in1, depth_deeper, depth_caller, Ar]; omega))
local macro_rules | `(tactic| k_mem) => `(tactic| assumption)
local macro_rules | `(tactic| k_all) => `(tactic| assumption)
local macro_rules | `(tactic| walk_at "ruc enter") => `(tactic| (refine wpAny_call ?_; (refine' code_def ?B ?F ?X ?N ?T rfl ?f1 ?f2 ?k6 ?k7 ?k8 ?k9 ?kB ?_ ?c2 ?c3 ?c4 ?c5; (case B => assumption); (case F => assumption); (case X => assumption); (case N => assumption); (case T => assumption); (case f1 => assumption); (case f2 => assumption); (case k6 => k_is); (case k7 => k_is); (case k8 => k_room); (case k9 => exact BindsTo.of_eq rfl); (case c5 => decide); (case kB => exact locs rfl); (case c2 => exact rfl); (case c3 => exact rfl); (case c4 => exact rfl); k_whole; intro g' L' h' FG' F' N' B' X' T'; (try dsimp only); (try k_lift B'); (try k_fold))))
local macro_rules | `(tactic| walk_at "ruc cx") => `(tactic| exact ⟨by assumption, by assumption, by assumption, rfl, rfl, by (first | omega | (dsimp only [Ar]; omega) | (simp only [depth_deeper, depth_in1, Around.deeper_units, Around.in1_units, Ar]; omega)), by (first | omega | (dsimp only [Ar]; omega) | (simp only [depth_deeper, depth_in1, Around.deeper_units, Around.in1_units, Ar]; omega))⟩)
local macro_rules | `(tactic| walk_at "call ref") => `(tactic| (k_here; (with_reducible show wpAny _ _ (call (Value.ref 57) _) _ _ _); k_dflt (refine' len_G (n := 3) ?cx ?F ?N ?md ?mx ?mdx ?hd1 ?hf ?hc ?lo ?_; (case cx => walk_at "ruc cx"); (case F => k_asm); (case N => k_asm); (case mx => k_mem); (case mdx => k_mem); (case md => k_mem); (case hd1 => assumption); (case hf => assumption); (case hc => assumption); (case lo => assumption)); intro h' t' tk' F' N'; (try dsimp only [PySem.W.LenBack]); (try (refine ⟨⟨by omega, by omega⟩, ?_⟩))))
local macro_rules | `(tactic| walk_at "call ref") => `(tactic| (k_here; (with_reducible show wpAny _ _ (call (Value.ref 78) _) _ _ _); k_dflt (refine' keys_G (n := 3) ?cx ?F ?N ?md ?mx ?mdx ?hd1 ?hf ?hc ?hlt ?lo ?_; (case cx => walk_at "ruc cx"); (case F => k_asm); (case N => k_asm); (case mx => k_mem); (case mdx => k_mem); (case md => k_mem); (case hd1 => assumption); (case hf => assumption); (case hc => assumption); (case hlt => (refine ⟨?_, ?_⟩ <;> omega)); (case lo => assumption)); intro S' h' so' tk' F' N' l1 hSK; (try k_lt l1)))
local macro_rules | `(tactic| walk_at "call ref") => `(tactic| (k_here; (with_reducible show wpAny _ _ (call (Value.ref 106) _) _ _ _); k_dflt (refine' walked_G (n := 3) ?cx ?F ?N ?mx ?mdx ?_; (case cx => walk_at "ruc cx"); (case F => k_asm); (case N => k_asm); (case mx => k_mem); (case mdx => k_mem)); intro h' tk' F' N'))
local macro_rules | `(tactic| walk_at "call builtin:len") => `(tactic| (k_here; (with_reducible show wpAny _ _ (call (Value.builtin "len") [Value.ref _]) _ _ _); k_dflt (refine' kst_len ?k1 ?k2 ?k3 ?k4 ?_; (case k1 => k_asm); (case k2 => k_mem); (case k3 => (first | assumption | exact len_snoc _ _ | exact len_cons_snoc _ _ _)); (case k4 => omega); k_whole)))
local macro_rules | `(tactic| walk_at "compareOp NotEq ref ref") => `(tactic| (k_here; k_dflt (refine' ne_ints_same ?N ?ma ?mb ?ia ?ib ?hu ?_; (case N => k_asm); (case ma => k_mem); (case mb => k_mem); (case ia => assumption); (case ib => assumption); (case hu => (first | omega | (dsimp only [Ar]; omega))))))
local macro_rules | `(tactic| walk_at "compareOp NotEq ref ref") => `(tactic| (k_here; k_dflt (refine' ne_sets_N ?N ?ma ?mb ?sa ?sb ?hl ?hu ?_; (case N => k_asm); (case ma => k_mem); (case mb => k_mem); (case sa => assumption); (case sb => assumption); (case hl => assumption); (case hu => (dsimp only [Ar]; omega)))))
local macro_rules | `(tactic| walk_at "eval SetComp") => `(tactic| (refine stop_here ?_))
local macro_rules | `(tactic| walk_at "ruc compS") => `(tactic| ((show wpAny _ _ _ _ _ _); k_dflt (refine' SetComp_S (cl := []) ?F ?a1 ?a2 ?a3 ?a4 ?a5 ?_ ?a6; (case F => k_asm); (case a1 => with_unfolding_all rfl); (case a2 => decide); (case a3 => rfl); (case a4 => decide); (case a5 => rfl); (case a6 => intro _; rfl)); walk1; (refine' CompSrcS.ledger ?a1 ?a2 ?a3 ?a4 ?a5 ?_; (case a1 => rfl); (case a2 => k_asm); (case a3 => k_asm); (case a4 => k_mem); (case a5 => assumption); intro g')))
local macro_rules | `(tactic| walk_at "execs cons") => `(tactic| ((with_reducible show wpAny _ _ (execs (Stmt.If (Expr.BoolOp _ _ _) _ _ _ :: Stmt.If (Expr.BoolOp _ _ _) _ _ _ :: []) _) _ _ _); (refine stop_here ?_)))
local macro_rules | `(tactic| walk_at "exec Assign cons ListComp") => `(tactic| (refine stop_here ?_))
local macro_rules | `(tactic| walk_at "eval ListComp") => `(tactic| (refine stop_here ?_))
local macro_rules | `(tactic| walk_at "ruc compU") => `(tactic| ((show wpAny _ _ _ _ _ _); k_dflt (refine' LCg.ListComp_U ?F ?a1 ?a2 ?a3 ?a4 ?a5 ?_ ?a6; (case F => k_asm); (case a1 => with_unfolding_all rfl); (case a2 => decide); (case a3 => rfl); (case a4 => decide); (case a5 => rfl); (case a6 => intro _; rfl)); walk1; (refine' LCg.CompSrc.ledger ?a1 ?a2 ?a3 ?a4 ?a5 ?_; (case a1 => rfl); (case a2 => k_asm); (case a3 => k_asm); (case a4 => k_mem); (case a5 => assumption); intro g')))
local macro_rules | `(tactic| walk_at "call ref") => `(tactic| (k_here; (with_reducible show wpAny _ _ (call (Value.ref 43) _) _ _ _); k_dflt (refine' setitem_new_G (n := 3) ?cx ?F ?N ?U1 ?mx ?mdx ?hd1 ?hf ?hk ?hc ?hfit ?hlt ?lo ?_; (case cx => walk_at "ruc cx"); (case F => k_asm); (case N => k_asm); (case mx => k_mem); (case mdx => k_mem); (case U1 => k_updF); (case hd1 => assumption); (case hf => assumption); (case hk => assumption); (case hc => assumption); (case hfit => assumption); (case hlt => ((repeat' refine And.intro ?_ ?_) <;> omega)); (case lo => assumption)); intro h' o' kvs' tk' F' N' hdN hfN; (try dsimp only at N')))
local macro_rules | `(tactic| walk_at "call ref") => `(tactic| (k_here; (with_reducible show wpAny _ _ (call (Value.ref 43) _) _ _ _); k_dflt (refine' setitem_old_G (n := 3) ?cx ?F ?N ?U1 ?U2 ?mx ?mdx ?mc ?hd1 ?hf ?hk ?hc ?hI ?hT ?hoT ?hlt ?lo ?hD ?hs ?_; (case cx => walk_at "ruc cx"); (case F => k_asm); (case N => k_asm); (case mx => k_mem); (case mdx => k_mem); (case hD => assumption); (case U1 => k_updF); (case U2 => (intro o'; (try dsimp only); k_updF)); (case mc => k_mem); (case hoT => assumption); (case hI => assumption); (case hd1 => assumption); (case hf => assumption); (case hk => assumption); (case hc => assumption); (case hT => omega); (case hlt => ((repeat' refine And.intro ?_ ?_) <;> omega)); (case lo => assumption); (case hs => (intro p hp'; refine ⟨by k_mem, ?_, ?_⟩ <;> (revert p; assumption)))); intro h' o' kvs' vsT' nT' tk' F' N' hdN hfN hTN; (try dsimp only at N')))
local macro_rules | `(tactic| walk_at "call ref") => `(tactic| (k_here; (with_reducible show wpAny _ _ (call (Value.ref 43) _) _ _ _); k_dflt (refine' setitem_full_G (n := 3) ?cx ?F ?N ?U1 ?U2 ?mx ?mdx ?mc ?hd1 ?hf ?hk ?hc ?hfull ?hfst ?hI ?hT ?hoT ?hlt ?lo ?hD ?hs ?_; (case cx => walk_at "ruc cx"); (case F => k_asm); (case N => k_asm); (case mx => k_mem); (case mdx => k_mem); (case hD => assumption); (case U1 => k_updF); (case U2 => (intro o'; (try dsimp only); k_updF)); (case mc => k_mem); (case hoT => assumption); (case hI => assumption); (case hd1 => assumption); (case hf => assumption); (case hk => assumption); (case hc => assumption); (case hfst => assumption); (case hfull => assumption); (case hT => omega); (case hlt => ((repeat' refine And.intro ?_ ?_) <;> omega)); (case lo => assumption); (case hs => (intro p hp'; refine ⟨by k_mem, ?_, ?_⟩ <;> (revert p; assumption)))); intro h' o' kvs' vsT' nT' tk' F' N' hdN hfN hTN; (try dsimp only at N')))
local macro_rules | `(tactic| walk_at "call ref") => `(tactic| (k_here; (with_reducible show wpAny _ _ (call (Value.ref 99) _) _ _ _); k_dflt (refine' taken_hit_G (n := 3) ?cx ?F ?N ?U1 ?U2 ?mx ?mdx ?mc ?hd1 ?hf ?hk ?hc ?hI ?hT ?hoT ?hlt ?lo ?hD ?hs ?_; (case cx => walk_at "ruc cx"); (case F => k_asm); (case N => k_asm); (case mx => k_mem); (case mdx => k_mem); (case hD => assumption); (case U1 => k_updF); (case U2 => (intro o'; (try dsimp only); k_updF)); (case mc => k_mem); (case hoT => assumption); (case hI => assumption); (case hd1 => assumption); (case hf => assumption); (case hk => assumption); (case hc => assumption); (case hT => omega); (case hlt => ((repeat' refine And.intro ?_ ?_) <;> omega)); (case lo => assumption); (case hs => (intro p hp'; refine ⟨by k_mem, ?_, ?_⟩ <;> (revert p; assumption)))); intro h' o' kvs' vsT' nT' tk' F' N' hdN hfN hTN; (try dsimp only at N')))
local macro_rules | `(tactic| walk_at "call ref") => `(tactic| (k_here; (with_reducible show wpAny _ _ (call (Value.ref 99) _) _ _ _); k_dflt (refine' taken_miss_G (n := 3) ?cx ?F ?N ?md ?mx ?mdx ?hd1 ?hf ?hk ?hc ?hlt ?lo ?_; (case cx => walk_at "ruc cx"); (case F => k_asm); (case N => k_asm); (case mx => k_mem); (case mdx => k_mem); (case md => k_mem); (case hd1 => assumption); (case hf => assumption); (case hk => assumption); (case hc => assumption); (case hlt => ((repeat' refine And.intro ?_ ?_) <;> omega)); (case lo => assumption)); intro h' tk' F' N'))
local macro_rules | `(tactic| walk_at "call ref") => `(tactic| (k_here; (with_reducible show wpAny _ _ (call (Value.ref 92) _) _ _ _); k_dflt (refine' got_miss_G (n := 3) ?cx ?F ?N ?md ?mx ?mdx ?hd1 ?hf ?hk ?hc ?hlt ?lo ?_; (case cx => walk_at "ruc cx"); (case F => k_asm); (case N => k_asm); (case mx => k_mem); (case mdx => k_mem); (case md => k_mem); (case hd1 => assumption); (case hf => assumption); (case hk => assumption); (case hc => assumption); (case hlt => ((repeat' refine And.intro ?_ ?_) <;> omega)); (case lo => assumption)); intro B' nB' h' tk' F' N' l1; (try k_lt l1)))
local macro_rules | `(tactic| walk_at "call ref") => `(tactic| (k_here; (with_reducible show wpAny _ _ (call (Value.ref 92) _) _ _ _); k_dflt (refine' got_hit_G (n := 3) ?cx ?F ?N ?U1 ?mx ?mdx ?hd1 ?hf ?hk ?hc ?hlt ?lo ?_; (case cx => walk_at "ruc cx"); (case F => k_asm); (case N => k_asm); (case mx => k_mem); (case mdx => k_mem); (case U1 => k_updF); (case hd1 => assumption); (case hf => assumption); (case hk => assumption); (case hc => assumption); (case hlt => ((repeat' refine And.intro ?_ ?_) <;> omega)); (case lo => assumption)); intro B' nB' h' o' kvs' t' tk' F' N' l1 hdN hfN; (try dsimp only at N'); (try k_lt l1)))
local macro_rules | `(tactic| walk_at "call ref") => `(tactic| (k_here; (with_reducible show wpAny _ _ (call (Value.ref 71) _) _ _ _); k_dflt (refine' clear_G (n := 3) ?cx ?F ?N ?U1 ?U2 ?mx ?mdx ?mc ?hd1 ?hf ?hc ?hI ?hT ?hoT ?hlt ?lo ?hD ?hs ?_; (case cx => walk_at "ruc cx"); (case F => k_asm); (case N => k_asm); (case mx => k_mem); (case mdx => k_mem); (case hD => assumption); (case U1 => k_updF); (case U2 => (intro o'; (try dsimp only); k_updF)); (case mc => k_mem); (case hoT => assumption); (case hI => assumption); (case hd1 => assumption); (case hf => assumption); (case hc => assumption); (case hT => omega); (case hlt => ((repeat' refine And.intro ?_ ?_) <;> omega)); (case lo => assumption); (case hs => (intro p hp'; refine ⟨by k_mem, ?_, ?_⟩ <;> (revert p; assumption)))); intro h' o' kvs' vsT' nT' tk' F' N' hdN hfN hTN; (try dsimp only at N')))
local macro_rules | `(tactic| walk_at "inplaceOp Add ref") => `(tactic| (k_here; k_dflt (refine' iadd_lists ?F ?N ?U ?mb ?hz ?_; (case F => k_asm); (case N => k_asm); (case U => k_updF); (case mb => k_mem); (case hz => omega)); intro h' n' F' N'; (try dsimp only at N')))
local macro_rules | `(tactic| walk_at "binaryOp Add ref ref") => `(tactic| (k_here; k_dflt (refine' add_listsN ?F ?N ?ma ?mb ?hz ?_; (case F => k_asm); (case N => k_asm); (case ma => k_mem); (case mb => k_mem); (case hz => (simp only [List.length_cons, List.length_nil] <;> omega))); intro D' h' F' N' l1; (try k_lt l1)))
local macro_rules | `(tactic| walk_at "ite") => `(tactic| first | refine ite_pos (by assumption) ?_ | refine ite_neg (by assumption) ?_ | refine ite_pos (by omega) ?_ | refine ite_neg (by omega) ?_)
local macro_rules | `(tactic| walk_at "subscriptTail") => `(tactic| (k_here; (with_reducible show wpAny _ _ (subscriptTail _ _ (Value.ref _) (Value.int 0 _)) _ _ _); k_dflt (refine' head_item ?N ?hm ?_ ?hs ?hg; (case N => k_asm); (case hm => k_mem); (case hs => with_unfolding_all rfl); (case hg => (intro _; with_unfolding_all rfl)))))
local macro_rules | `(tactic| walk_at "subscriptTail Name Slice ref ref") => `(tactic| (k_here; k_dflt (refine' tail_slice ?F ?N ?hm ?hz ?_ ?hs ?ht; (case F => k_asm); (case N => k_asm); (case hm => k_mem); (case hz => (simp only [List.length_cons, List.length_append, List.length_nil]; omega)); (case hs => with_unfolding_all rfl); (case ht => (intro _; with_unfolding_all rfl))); intro D' h' F' N' l1; (try k_lt l1)))
local macro_rules | `(tactic| walk_at "call builtin:list.append") => `(tactic| (k_here; k_dflt (refine' append_K ?k1 ?k2 ?k3 ?_ ?z; (case k1 => k_asm); (case k2 => k_asm); (case k3 => k_upd); (case z => (rw [PySem.sizeLine_eq]; simp only [List.length_append, List.length_cons, List.length_nil, List.size_toArray]; omega)); k_whole); intro h' F' N'; (try k_sweep)))
local macro_rules | `(tactic| k_ne) => `(tactic| (refine neN ?_; (try dsimp only); first | assumption | exact Ne.symm (by assumption) | omega))
section
variable {w : World} {A₀ : Around} {h₀ : Heap} {L x dx d tL DU P NU I fa R H : Addr} {loose : List Str} {mean : ExcName → Option Value} {u mg mb : Str → Option Value} {D U n : Nat}
  {g : Option (List Code)} {s : Shared} {E : Value → Shared → Prop} {Q : Flow → Shared → Prop} {dv : Value} {t1 t2 t3 ts tp tk1 tk2 : Tok} {nn nd np nT nw nr nh : Nat} {o oT oK oC oI : Obj} {kvs : List (Int × Value)} {c : List (Int × Int)} {size pl kd key : Int} {sil : Bool} {tail : List (Addr × Obj)}
  {dvs pvs vsT ws rs hs : List Value} {due told : List Int}
theorem takenb_miss (cx : Cx 10 w A₀ h₀ h₀ [] (lawEnv L fa) L loose mean mg mb D U)
    (F : Fr h₀ L s.heap (fun y => if y = Str.ofString "rest" then some (.ref R) else if y = Str.ofString "held" then some (.ref H) else if y = Str.ofString "kind" then some (.int kd tk1) else if y = Str.ofString "place" then some (.int pl tp) else if y = Str.ofString "due" then some (.ref DU) else if y = Str.ofString "pairs" then some (.ref P) else if y = Str.ofString "silent" then some (.bool sil) else if y = Str.ofString "size" then some (.int size ts) else if y = Str.ofString "numbers" then some (.ref NU) else u y))
    (N : News h₀ L s.heap ((R, W.listOf rs.toArray nr) :: (H, W.listOf hs.toArray nh) :: (I, oI) :: (DU, W.listOf dvs.toArray nd) :: (P, W.listOf pvs.toArray np) :: (d, o) :: (x, instObj 81 dx) :: (dx, selfDict w t1 t2 t3 (.int size ts) dv d nn) :: (tL, W.listOf vsT.toArray nT) :: (NU, W.listOf ws.toArray nw) :: (L + 1 + 1 + 1, oT) :: (L + 1 + 1, oK) :: (L + 1, oC) :: tail))
    (hord : @LT.lt Nat _ (L + 1 + 1 + 1) NU ∧ @LT.lt Nat _ NU tL ∧ @LT.lt Nat _ tL dx ∧ @LT.lt Nat _ dx x ∧ @LT.lt Nat _ x d ∧ @LT.lt Nat _ d DU ∧ @LT.lt Nat _ DU I ∧ @Ne Nat P (L + 1 + 1) ∧ @Ne Nat P d ∧ @Ne Nat P tL ∧ @Ne Nat P DU ∧ @Ne Nat P I)
    (hoT : oT.data = .cell (some (.ref tL))) (hoC : oC.data = .cell (some (.ref x))) (hoK : oK.data = .cell (some (.int key tk2)))
    (hd1 : o.IsDictOf (PySem.intKind prg w) kvs) (hf : PyProof.V.FlatPairs PyData.int kvs (kdfD c)) (hc : c.length ≤ 100) (lo : (d == sysModules) = false)
    (hdue : IntsAre dvs due) (hduel : due.length ≤ 400) (htold : IntsAre vsT told) (htd : told = if sil then [] else due) (hp : PairsIn tail pvs c)
    (hD : DispS sil dv tL (L + 1 + 1 + 1) tail) (hofK : ∀ p ∈ tail, p.1 ≠ L + 1 + 1) (hofd : ∀ p ∈ tail, p.1 ≠ d) (hofT : ∀ p ∈ tail, p.1 ≠ tL) (hofU : ∀ p ∈ tail, p.1 ≠ DU) (hofI : ∀ p ∈ tail, p.1 ≠ I)
    (hHo : Off H L d tL DU I P) (hRo : Off R L d tL DU I P) (hRH : @Ne Nat R H) (hpl0 : 0 ≤ pl)
    (hrs : PairsIn tail rs (c.filter fun q => q.1 != key)) (hhs : PairsIn tail hs (c.filter fun q => q.1 == key)) (gd : Good c size) (hk0 : 0 ≤ key) (hk5 : key < 5) (hsz : size ≤ 4)
    (hkd : kd = 6) (hk : kdfHas c key = false)
    (h : ∀ h' tk' P' pvs' np' o' kvs' dvs' nd' vsT' nT' extra (u' : Str → Option Value), Fr h₀ L h' (fun y => if y = Str.ofString "due" then some (.ref DU) else if y = Str.ofString "pairs" then some (.ref P') else if y = Str.ofString "silent" then some (.bool sil) else if y = Str.ofString "size" then some (.int size ts) else if y = Str.ofString "numbers" then some (.ref NU) else u' y) →
      News h₀ L h' ((I, oI) :: (DU, W.listOf dvs'.toArray nd') :: (P', W.listOf pvs'.toArray np') :: (d, o') :: (x, instObj 81 dx) :: (dx, selfDict w t1 t2 t3 (.int size ts) dv d nn) :: (tL, W.listOf vsT'.toArray nT') :: (NU, W.listOf ws.toArray nw) :: (L + 1 + 1 + 1, oT) :: (L + 1 + 1, oK) :: (L + 1, oC) :: (extra ++ tail)) → PairsIn (extra ++ tail) pvs' (c) → o'.IsDictOf (PySem.intKind prg w) kvs' → PyProof.V.FlatPairs PyData.int kvs' (kdfD (c)) → IntsAre dvs' (due) → IntsAre vsT' (if sil then [] else due) →
      (∀ p ∈ extra, p.1 ≠ L + 1 + 1 ∧ p.1 ≠ d ∧ p.1 ≠ tL ∧ p.1 ≠ DU ∧ p.1 ≠ I) → @Ne Nat P' (L + 1 + 1) → @Ne Nat P' d → @Ne Nat P' tL → @Ne Nat P' DU → @Ne Nat P' I →
      wpAny (model prg w) (Ar D U g (lawEnv L fa) []) (execs checks (lawEnv L fa)) Q E { s with heap := h', toks := tk' })
    : wpAny (model prg w) (Ar D U g (lawEnv L fa) []) (execs loopRest (lawEnv L fa)) Q E s := by
  obtain ⟨B, X, T, hf1, hk1, hDD, hU⟩ := cx
  obtain ⟨oH1, oH2, oH3, oH4, oH5, oH6⟩ := hHo
  obtain ⟨oR1, oR2, oR3, oR4, oR5, oR6⟩ := hRo
  obtain ⟨q1, q2, q3, q4, q5, q6, q7, q8, q9, q10, q11, q12⟩ := hord
  have hpl := hp.length
  have hrl := hrs.length
  have hhl := hhs.length
  have hss := gd.sz
  have htl : told.length ≤ 400 := by
    rw [htd]
    cases sil with
    | true => exact Nat.zero_le _
    | false => exact hduel
  have hz : ∀ ys : List Value, ys.length ≤ 100 → ys.toArray.size ≤ sizeLine := fun ys hy => by rw [List.size_toArray, PySem.sizeLine_eq]; omega
  have hlr := List.length_filter_le (fun q : Int × Int => q.1 != key) c
  have hlh := List.length_filter_le (fun q : Int × Int => q.1 == key) c
  have hz1 := hz rs (by omega)
  have hz2 := hz hs (by omega)
  have hz3 := hz pvs (by omega)
  dsimp only [lawEnv, loopRest, loopBody, List.drop, lawBody, lawScope, lawStmt, PySem.Challenge.pw_ew0039_01] at hf1 hk1 ⊢
  w_on
  have hfh := flt_miss hk
  rw [hfh.1] at hhs
  rw [hfh.2] at hrs
  have hhs0 := hhs
  cases hhs
  subst hkd
  w_strict k_steps
  w_strict walk_at "ruc compU"
  refine' pm_rest hhs0 (fun t' k' v' t1' t2' nt' I' oI' C' oC' D' m' ys' h' tk' E' hm' hC' hx' F' N' off' ne' => ?_) (fun ys' hys' => ?_)
  · w_strict k_steps
    exact LCg.CompEnd.intro F' N' _ (fun p hp => hp) off' (Or.inr ⟨W.listOf [].toArray nh, by k_mem, rfl, nh, rfl⟩) ⟨rfl, _, rfl⟩
  have hyl : ys'.length ≤ 100 := by rw [hys'.length, List.length_map]; (first | omega | (simp only [List.length_cons, List.length_nil]; omega))
  have hdl := hdue.length
  intro DD hD0 tkD FD ND oD
  have oDU : @Ne Nat DD DU := Ne.symm (off1_mem oD (DU, W.listOf dvs.toArray nd) (by k_mem))
  w_strict k_steps
  (show wpAny _ _ _ _ _ _)
  rename Fr h₀ L _ _ => kF
  rename News h₀ L _ _ => kN
  rename Obj.IsDictOf _ _ _ => hdN
  rename PyProof.V.FlatPairs _ _ _ => hfN
  refine' h _ _ R rs nr _ _ _ _ _ _ [] _ (canonF kF rfl rfl rfl rfl rfl) ?nn hrs hdN hfN (by simpa using hdue.append hys') (told_same htold htd) (fun p hp => nomatch hp) ?b1 ?b2 ?b3 ?b4 ?b5
  case nn => (intro p hp; (repeat (rcases List.mem_cons.mp hp with rfl | hp; (focus exact kN _ (by k_mem)))); exact kN _ (by k_mem))
  case b1 => (try dsimp only [elt]); (first | assumption | omega)
  case b2 => (try dsimp only [elt]); (first | assumption | omega)
  case b3 => (try dsimp only [elt]); (first | assumption | omega)
  case b4 => (try dsimp only [elt]); (first | assumption | omega)
  case b5 => (try dsimp only [elt]); (first | assumption | omega)
end
end Ruc
end
section
open PySem PySem.W PySem.Calls PySem.Spec PyProof.Rows
set_option maxHeartbeats 1500000
namespace Ruc
theorem fillRu19 : PySem.Challenge.rw_ew0039_01.row.prog = PySem.Challenge.rw_ew0039_01.row.prog ∧ hd.heap_39 = hd.heap_39 := by k_fill; exact ⟨rfl, rfl⟩
local macro_rules | `(tactic| k_room) => `(tactic| (simp only [depth_under_make, depth_under_kw, depth_in1, depth_deeper, depth_caller, Ar]; omega))
local macro_rules | `(tactic| k_mem) => `(tactic| assumption)
local macro_rules | `(tactic| k_all) => `(tactic| assumption)
local macro_rules | `(tactic| walk_at "ruc enter") => `(tactic| (refine wpAny_call ?_; (refine' code_def ?B ?F ?X ?N ?T rfl ?f1 ?f2 ?k6 ?k7 ?k8 ?k9 ?kB ?_ ?c2 ?c3 ?c4 ?c5; (case B => assumption); (case F => assumption); (case X => assumption); (case N => assumption); (case T => assumption); (case f1 => assumption); (case f2 => assumption); (case k6 => k_is); (case k7 => k_is); (case k8 => k_room); (case k9 => exact BindsTo.of_eq rfl); (case c5 => decide); (case kB => exact locs rfl); (case c2 => exact rfl); (case c3 => exact rfl); (case c4 => exact rfl); k_whole; intro g' L' h' FG' F' N' B' X' T'; (try dsimp only); (try k_lift B'); (try k_fold))))
local macro_rules | `(tactic| walk_at "ruc cx") => `(tactic| exact ⟨by assumption, by assumption, by assumption, rfl, rfl, by (first | omega | (dsimp only [Ar]; omega) | (simp only [depth_deeper, depth_in1, Around.deeper_units, Around.in1_units, Ar]; omega)), by (first | omega | (dsimp only [Ar]; omega) | (simp only [depth_deeper, depth_in1, Around.deeper_units, Around.in1_units, Ar]; omega))⟩)
local macro_rules | `(tactic| walk_at "call ref") => `(tactic| (k_here; (with_reducible show wpAny _ _ (call (Value.ref 57) _) _ _ _); k_dflt (refine' len_G (n := 3) ?cx ?F ?N ?md ?mx ?mdx ?hd1 ?hf ?hc ?lo ?_; (case cx => walk_at "ruc cx"); (case F => k_asm); (case N => k_asm); (case mx => k_mem); (case mdx => k_mem); (case md => k_mem); (case hd1 => assumption); (case hf => assumption); (case hc => assumption); (case lo => assumption)); intro h' t' tk' F' N'; (try dsimp only [PySem.W.LenBack]); (try (refine ⟨⟨by omega, by omega⟩, ?_⟩))))
local macro_rules | `(tactic| walk_at "call ref") => `(tactic| (k_here; (with_reducible show wpAny _ _ (call (Value.ref 78) _) _ _ _); k_dflt (refine' keys_G (n := 3) ?cx ?F ?N ?md ?mx ?mdx ?hd1 ?hf ?hc ?hlt ?lo ?_; (case cx => walk_at "ruc cx"); (case F => k_asm); (case N => k_asm); (case mx => k_mem); (case mdx => k_mem); (case md => k_mem); (case hd1 => assumption); (case hf => assumption); (case hc => assumption); (case hlt => (refine ⟨?_, ?_⟩ <;> omega)); (case lo => assumption)); intro S' h' so' tk' F' N' l1 hSK; (try k_lt l1)))
local macro_rules | `(tactic| walk_at "call ref") => `(tactic| (k_here; (with_reducible show wpAny _ _ (call (Value.ref 106) _) _ _ _); k_dflt (refine' walked_G (n := 3) ?cx ?F ?N ?mx ?mdx ?_; (case cx => walk_at "ruc cx"); (case F => k_asm); (case N => k_asm); (case mx => k_mem); (case mdx => k_mem)); intro h' tk' F' N'))
local macro_rules | `(tactic| walk_at "call builtin:len") => `(tactic| (k_here; (with_reducible show wpAny _ _ (call (Value.builtin "len") [Value.ref _]) _ _ _); k_dflt (refine' kst_len ?k1 ?k2 ?k3 ?k4 ?_; (case k1 => k_asm); (case k2 => k_mem); (case k3 => (first | assumption | exact len_snoc _ _ | exact len_cons_snoc _ _ _)); (case k4 => omega); k_whole)))
local macro_rules | `(tactic| walk_at "compareOp NotEq ref ref") => `(tactic| (k_here; k_dflt (refine' ne_ints_same ?N ?ma ?mb ?ia ?ib ?hu ?_; (case N => k_asm); (case ma => k_mem); (case mb => k_mem); (case ia => assumption); (case ib => assumption); (case hu => (first | omega | (dsimp only [Ar]; omega))))))
local macro_rules | `(tactic| walk_at "compareOp NotEq ref ref") => `(tactic| (k_here; k_dflt (refine' ne_sets_N ?N ?ma ?mb ?sa ?sb ?hl ?hu ?_; (case N => k_asm); (case ma => k_mem); (case mb => k_mem); (case sa => assumption); (case sb => assumption); (case hl => assumption); (case hu => (dsimp only [Ar]; omega)))))
local macro_rules | `(tactic| walk_at "eval SetComp") => `(tactic| (refine stop_here ?_))
local macro_rules | `(tactic| walk_at "ruc compS") => `(tactic| ((show wpAny _ _ _ _ _ _); k_dflt (refine' SetComp_S (cl := []) ?F ?a1 ?a2 ?a3 ?a4 ?a5 ?_ ?a6; (case F => k_asm); (case a1 => with_unfolding_all rfl); (case a2 => decide); (case a3 => rfl); (case a4 => decide); (case a5 => rfl); (case a6 => intro _; rfl)); walk1; (refine' CompSrcS.ledger ?a1 ?a2 ?a3 ?a4 ?a5 ?_; (case a1 => rfl); (case a2 => k_asm); (case a3 => k_asm); (case a4 => k_mem); (case a5 => assumption); intro g')))
local macro_rules | `(tactic| walk_at "execs cons") => `(tactic| ((with_reducible show wpAny _ _ (execs (Stmt.If (Expr.BoolOp _ _ _) _ _ _ :: Stmt.If (Expr.BoolOp _ _ _) _ _ _ :: []) _) _ _ _); (refine stop_here ?_)))
local macro_rules | `(tactic| walk_at "exec Assign cons ListComp") => `(tactic| (refine stop_here ?_))
local macro_rules | `(tactic| walk_at "eval ListComp") => `(tactic| (refine stop_here ?_))
local macro_rules | `(tactic| walk_at "ruc compU") => `(tactic| ((show wpAny _ _ _ _ _ _); k_dflt (refine' LCg.ListComp_U ?F ?a1 ?a2 ?a3 ?a4 ?a5 ?_ ?a6; (case F => k_asm); (case a1 => with_unfolding_all rfl); (case a2 => decide); (case a3 => rfl); (case a4 => decide); (case a5 => rfl); (case a6 => intro _; rfl)); walk1; (refine' LCg.CompSrc.ledger ?a1 ?a2 ?a3 ?a4 ?a5 ?_; (case a1 => rfl); (case a2 => k_asm); (case a3 => k_asm); (case a4 => k_mem); (case a5 => assumption); intro g')))
local macro_rules | `(tactic| walk_at "call ref") => `(tactic| (k_here; (with_reducible show wpAny _ _ (call (Value.ref 43) _) _ _ _); k_dflt (refine' setitem_new_G (n := 3) ?cx ?F ?N ?U1 ?mx ?mdx ?hd1 ?hf ?hk ?hc ?hfit ?hlt ?lo ?_; (case cx => walk_at "ruc cx"); (case F => k_asm); (case N => k_asm); (case mx => k_mem); (case mdx => k_mem); (case U1 => k_updF); (case hd1 => assumption); (case hf => assumption); (case hk => assumption); (case hc => assumption); (case hfit => assumption); (case hlt => ((repeat' refine And.intro ?_ ?_) <;> omega)); (case lo => assumption)); intro h' o' kvs' tk' F' N' hdN hfN; (try dsimp only at N')))
local macro_rules | `(tactic| walk_at "call ref") => `(tactic| (k_here; (with_reducible show wpAny _ _ (call (Value.ref 43) _) _ _ _); k_dflt (refine' setitem_old_G (n := 3) ?cx ?F ?N ?U1 ?U2 ?mx ?mdx ?mc ?hd1 ?hf ?hk ?hc ?hI ?hT ?hoT ?hlt ?lo ?hD ?hs ?_; (case cx => walk_at "ruc cx"); (case F => k_asm); (case N => k_asm); (case mx => k_mem); (case mdx => k_mem); (case hD => assumption); (case U1 => k_updF); (case U2 => (intro o'; (try dsimp only); k_updF)); (case mc => k_mem); (case hoT => assumption); (case hI => assumption); (case hd1 => assumption); (case hf => assumption); (case hk => assumption); (case hc => assumption); (case hT => omega); (case hlt => ((repeat' refine And.intro ?_ ?_) <;> omega)); (case lo => assumption); (case hs => (intro p hp'; refine ⟨by k_mem, ?_, ?_⟩ <;> (revert p; assumption)))); intro h' o' kvs' vsT' nT' tk' F' N' hdN hfN hTN; (try dsimp only at N')))
local macro_rules | `(tactic| walk_at "call ref") => `(tactic| (k_here; (with_reducible show wpAny _ _ (call (Value.ref 43) _) _ _ _); k_dflt (refine' setitem_full_G (n := 3) ?cx ?F ?N ?U1 ?U2 ?mx ?mdx ?mc ?hd1 ?hf ?hk ?hc ?hfull ?hfst ?hI ?hT ?hoT ?hlt ?lo ?hD ?hs ?_; (case cx => walk_at "ruc cx"); (case F => k_asm); (case N => k_asm); (case mx => k_mem); (case mdx => k_mem); (case hD => assumption); (case U1 => k_updF); (case U2 => (intro o'; (try dsimp only); k_updF)); (case mc => k_mem); (case hoT => assumption); (case hI => assumption); (case hd1 => assumption); (case hf => assumption); (case hk => assumption); (case hc => assumption); (case hfst => assumption); (case hfull => assumption); (case hT => omega); (case hlt => ((repeat' refine And.intro ?_ ?_) <;> omega)); (case lo => assumption); (case hs => (intro p hp'; refine ⟨by k_mem, ?_, ?_⟩ <;> (revert p; assumption)))); intro h' o' kvs' vsT' nT' tk' F' N' hdN hfN hTN; (try dsimp only at N')))
local macro_rules | `(tactic| walk_at "call ref") => `(tactic| (k_here; (with_reducible show wpAny _ _ (call (Value.ref 99) _) _ _ _); k_dflt (refine' taken_hit_G (n := 3) ?cx ?F ?N ?U1 ?U2 ?mx ?mdx ?mc ?hd1 ?hf ?hk ?hc ?hI ?hT ?hoT ?hlt ?lo ?hD ?hs ?_; (case cx => walk_at "ruc cx"); (case F => k_asm); (case N => k_asm); (case mx => k_mem); (case mdx => k_mem); (case hD => assumption); (case U1 => k_updF); (case U2 => (intro o'; (try dsimp only); k_updF)); (case mc => k_mem); (case hoT => assumption); (case hI => assumption); (case hd1 => assumption); (case hf => assumption); (case hk => assumption); (case hc => assumption); (case hT => omega); (case hlt => ((repeat' refine And.intro ?_ ?_) <;> omega)); (case lo => assumption); (case hs => (intro p hp'; refine ⟨by k_mem, ?_, ?_⟩ <;> (revert p; assumption)))); intro h' o' kvs' vsT' nT' tk' F' N' hdN hfN hTN; (try dsimp only at N')))
local macro_rules | `(tactic| walk_at "call ref") => `(tactic| (k_here; (with_reducible show wpAny _ _ (call (Value.ref 99) _) _ _ _); k_dflt (refine' taken_miss_G (n := 3) ?cx ?F ?N ?md ?mx ?mdx ?hd1 ?hf ?hk ?hc ?hlt ?lo ?_; (case cx => walk_at "ruc cx"); (case F => k_asm); (case N => k_asm); (case mx => k_mem); (case mdx => k_mem); (case md => k_mem); (case hd1 => assumption); (case hf => assumption); (case hk => assumption); (case hc => assumption); (case hlt => ((repeat' refine And.intro ?_ ?_) <;> omega)); (case lo => assumption)); intro h' tk' F' N'))
local macro_rules | `(tactic| walk_at "call ref") => `(tactic| (k_here; (with_reducible show wpAny _ _ (call (Value.ref 92) _) _ _ _); k_dflt (refine' got_miss_G (n := 3) ?cx ?F ?N ?md ?mx ?mdx ?hd1 ?hf ?hk ?hc ?hlt ?lo ?_; (case cx => walk_at "ruc cx"); (case F => k_asm); (case N => k_asm); (case mx => k_mem); (case mdx => k_mem); (case md => k_mem); (case hd1 => assumption); (case hf => assumption); (case hk => assumption); (case hc => assumption); (case hlt => ((repeat' refine And.intro ?_ ?_) <;> omega)); (case lo => assumption)); intro B' nB' h' tk' F' N' l1; (try k_lt l1)))
local macro_rules | `(tactic| walk_at "call ref") => `(tactic| (k_here; (with_reducible show wpAny _ _ (call (Value.ref 92) _) _ _ _); k_dflt (refine' got_hit_G (n := 3) ?cx ?F ?N ?U1 ?mx ?mdx ?hd1 ?hf ?hk ?hc ?hlt ?lo ?_; (case cx => walk_at "ruc cx"); (case F => k_asm); (case N => k_asm); (case mx => k_mem); (case mdx => k_mem); (case U1 => k_updF); (case hd1 => assumption); (case hf => assumption); (case hk => assumption); (case hc => assumption); (case hlt => ((repeat' refine And.intro ?_ ?_) <;> omega)); (case lo => assumption)); intro B' nB' h' o' kvs' t' tk' F' N' l1 hdN hfN; (try dsimp only at N'); (try k_lt l1)))
local macro_rules | `(tactic| walk_at "call ref") => `(tactic| (k_here; (with_reducible show wpAny _ _ (call (Value.ref 71) _) _ _ _); k_dflt (refine' clear_G (n := 3) ?cx ?F ?N ?U1 ?U2 ?mx ?mdx ?mc ?hd1 ?hf ?hc ?hI ?hT ?hoT ?hlt ?lo ?hD ?hs ?_; (case cx => walk_at "ruc cx"); (case F => k_asm); (case N => k_asm); (case mx => k_mem); (case mdx => k_mem); (case hD => assumption); (case U1 => k_updF); (case U2 => (intro o'; (try dsimp only); k_updF)); (case mc => k_mem); (case hoT => assumption); (case hI => assumption); (case hd1 => assumption); (case hf => assumption); (case hc => assumption); (case hT => omega); (case hlt => ((repeat' refine And.intro ?_ ?_) <;> omega)); (case lo => assumption); (case hs => (intro p hp'; refine ⟨by k_mem, ?_, ?_⟩ <;> (revert p; assumption)))); intro h' o' kvs' vsT' nT' tk' F' N' hdN hfN hTN; (try dsimp only at N')))
local macro_rules | `(tactic| walk_at "inplaceOp Add ref") => `(tactic| (k_here; k_dflt (refine' iadd_lists ?F ?N ?U ?mb ?hz ?_; (case F => k_asm); (case N => k_asm); (case U => k_updF); (case mb => k_mem); (case hz => omega)); intro h' n' F' N'; (try dsimp only at N')))
local macro_rules | `(tactic| walk_at "binaryOp Add ref ref") => `(tactic| (k_here; k_dflt (refine' add_listsN ?F ?N ?ma ?mb ?hz ?_; (case F => k_asm); (case N => k_asm); (case ma => k_mem); (case mb => k_mem); (case hz => (simp only [List.length_cons, List.length_nil] <;> omega))); intro D' h' F' N' l1; (try k_lt l1)))
local macro_rules | `(tactic| walk_at "ite") => `(tactic| first | refine ite_pos (by assumption) ?_ | refine ite_neg (by assumption) ?_ | refine ite_pos (by omega) ?_ | refine ite_neg (by omega) ?_)
local macro_rules | `(tactic| walk_at "subscriptTail") => `(tactic| (k_here; (with_reducible show wpAny _ _ (subscriptTail _ _ (Value.ref _) (Value.int 0 _)) _ _ _); k_dflt (refine' head_item ?N ?hm ?_ ?hs ?hg; (case N => k_asm); (case hm => k_mem); (case hs => with_unfolding_all rfl); (case hg => (intro _; with_unfolding_all rfl)))))
local macro_rules | `(tactic| walk_at "subscriptTail Name Slice ref ref") => `(tactic| (k_here; k_dflt (refine' tail_slice ?F ?N ?hm ?hz ?_ ?hs ?ht; (case F => k_asm); (case N => k_asm); (case hm => k_mem); (case hz => (simp only [List.length_cons, List.length_append, List.length_nil]; omega)); (case hs => with_unfolding_all rfl); (case ht => (intro _; with_unfolding_all rfl))); intro D' h' F' N' l1; (try k_lt l1)))
local macro_rules | `(tactic| walk_at "call builtin:list.append") => `(tactic| (k_here; k_dflt (refine' append_K ?k1 ?k2 ?k3 ?_ ?z; (case k1 => k_asm); (case k2 => k_asm); (case k3 => k_upd); (case z => (rw [PySem.sizeLine_eq]; simp only [List.length_append, List.length_cons, List.length_nil, List.size_toArray]; omega)); k_whole); intro h' F' N'; (try k_sweep)))
local macro_rules | `(tactic| k_ne) => `(tactic| (refine neN ?_; (try dsimp only); first | assumption | exact Ne.symm (by assumption) | omega))
section
variable {w : World} {A₀ : Around} {h₀ : Heap} {L x dx d tL DU P NU I fa R H : Addr} {loose : List Str} {mean : ExcName → Option Value} {u mg mb : Str → Option Value} {D U n : Nat}
  {g : Option (List Code)} {s : Shared} {E : Value → Shared → Prop} {Q : Flow → Shared → Prop} {dv : Value} {t1 t2 t3 ts tp tk1 tk2 : Tok} {nn nd np nT nw nr nh : Nat} {o oT oK oC oI : Obj} {kvs : List (Int × Value)} {c : List (Int × Int)} {size pl kd key : Int} {sil : Bool} {tail : List (Addr × Obj)}
  {dvs pvs vsT ws rs hs : List Value} {due told : List Int}
theorem lowb (cx : Cx 10 w A₀ h₀ h₀ [] (lawEnv L fa) L loose mean mg mb D U)
    (F : Fr h₀ L s.heap (fun y => if y = Str.ofString "rest" then some (.ref R) else if y = Str.ofString "held" then some (.ref H) else if y = Str.ofString "kind" then some (.int kd tk1) else if y = Str.ofString "place" then some (.int pl tp) else if y = Str.ofString "due" then some (.ref DU) else if y = Str.ofString "pairs" then some (.ref P) else if y = Str.ofString "silent" then some (.bool sil) else if y = Str.ofString "size" then some (.int size ts) else if y = Str.ofString "numbers" then some (.ref NU) else u y))
    (N : News h₀ L s.heap ((R, W.listOf rs.toArray nr) :: (H, W.listOf hs.toArray nh) :: (I, oI) :: (DU, W.listOf dvs.toArray nd) :: (P, W.listOf pvs.toArray np) :: (d, o) :: (x, instObj 81 dx) :: (dx, selfDict w t1 t2 t3 (.int size ts) dv d nn) :: (tL, W.listOf vsT.toArray nT) :: (NU, W.listOf ws.toArray nw) :: (L + 1 + 1 + 1, oT) :: (L + 1 + 1, oK) :: (L + 1, oC) :: tail))
    (hord : @LT.lt Nat _ (L + 1 + 1 + 1) NU ∧ @LT.lt Nat _ NU tL ∧ @LT.lt Nat _ tL dx ∧ @LT.lt Nat _ dx x ∧ @LT.lt Nat _ x d ∧ @LT.lt Nat _ d DU ∧ @LT.lt Nat _ DU I ∧ @Ne Nat P (L + 1 + 1) ∧ @Ne Nat P d ∧ @Ne Nat P tL ∧ @Ne Nat P DU ∧ @Ne Nat P I)
    (hoT : oT.data = .cell (some (.ref tL))) (hoC : oC.data = .cell (some (.ref x))) (hoK : oK.data = .cell (some (.int key tk2)))
    (hd1 : o.IsDictOf (PySem.intKind prg w) kvs) (hf : PyProof.V.FlatPairs PyData.int kvs (kdfD c)) (hc : c.length ≤ 100) (lo : (d == sysModules) = false)
    (hdue : IntsAre dvs due) (hduel : due.length ≤ 400) (htold : IntsAre vsT told) (htd : told = if sil then [] else due) (hp : PairsIn tail pvs c)
    (hD : DispS sil dv tL (L + 1 + 1 + 1) tail) (hofK : ∀ p ∈ tail, p.1 ≠ L + 1 + 1) (hofd : ∀ p ∈ tail, p.1 ≠ d) (hofT : ∀ p ∈ tail, p.1 ≠ tL) (hofU : ∀ p ∈ tail, p.1 ≠ DU) (hofI : ∀ p ∈ tail, p.1 ≠ I)
    (hHo : Off H L d tL DU I P) (hRo : Off R L d tL DU I P) (hRH : @Ne Nat R H) (hpl0 : 0 ≤ pl)
    (hrs : PairsIn tail rs (c.filter fun q => q.1 != key)) (hhs : PairsIn tail hs (c.filter fun q => q.1 == key)) (gd : Good c size) (hk0 : 0 ≤ key) (hk5 : key < 5) (hsz : size ≤ 4)
    (hkd : kd = 7) (hlow : key < 3)
    (h : ∀ h' tk' P' pvs' np' o' kvs' dvs' nd' vsT' nT' extra (u' : Str → Option Value), Fr h₀ L h' (fun y => if y = Str.ofString "due" then some (.ref DU) else if y = Str.ofString "pairs" then some (.ref P') else if y = Str.ofString "silent" then some (.bool sil) else if y = Str.ofString "size" then some (.int size ts) else if y = Str.ofString "numbers" then some (.ref NU) else u' y) →
      News h₀ L h' ((I, oI) :: (DU, W.listOf dvs'.toArray nd') :: (P', W.listOf pvs'.toArray np') :: (d, o') :: (x, instObj 81 dx) :: (dx, selfDict w t1 t2 t3 (.int size ts) dv d nn) :: (tL, W.listOf vsT'.toArray nT') :: (NU, W.listOf ws.toArray nw) :: (L + 1 + 1 + 1, oT) :: (L + 1 + 1, oK) :: (L + 1, oC) :: (extra ++ tail)) → PairsIn (extra ++ tail) pvs' (c) → o'.IsDictOf (PySem.intKind prg w) kvs' → PyProof.V.FlatPairs PyData.int kvs' (kdfD (c)) → IntsAre dvs' (due) → IntsAre vsT' (if sil then [] else due) →
      (∀ p ∈ extra, p.1 ≠ L + 1 + 1 ∧ p.1 ≠ d ∧ p.1 ≠ tL ∧ p.1 ≠ DU ∧ p.1 ≠ I) → @Ne Nat P' (L + 1 + 1) → @Ne Nat P' d → @Ne Nat P' tL → @Ne Nat P' DU → @Ne Nat P' I →
      wpAny (model prg w) (Ar D U g (lawEnv L fa) []) (execs checks (lawEnv L fa)) Q E { s with heap := h', toks := tk' })
    : wpAny (model prg w) (Ar D U g (lawEnv L fa) []) (execs loopRest (lawEnv L fa)) Q E s := by
  obtain ⟨B, X, T, hf1, hk1, hDD, hU⟩ := cx
  obtain ⟨oH1, oH2, oH3, oH4, oH5, oH6⟩ := hHo
  obtain ⟨oR1, oR2, oR3, oR4, oR5, oR6⟩ := hRo
  obtain ⟨q1, q2, q3, q4, q5, q6, q7, q8, q9, q10, q11, q12⟩ := hord
  have hpl := hp.length
  have hrl := hrs.length
  have hhl := hhs.length
  have hss := gd.sz
  have htl : told.length ≤ 400 := by
    rw [htd]
    cases sil with
    | true => exact Nat.zero_le _
    | false => exact hduel
  have hz : ∀ ys : List Value, ys.length ≤ 100 → ys.toArray.size ≤ sizeLine := fun ys hy => by rw [List.size_toArray, PySem.sizeLine_eq]; omega
  have hlr := List.length_filter_le (fun q : Int × Int => q.1 != key) c
  have hlh := List.length_filter_le (fun q : Int × Int => q.1 == key) c
  have hz1 := hz rs (by omega)
  have hz2 := hz hs (by omega)
  have hz3 := hz pvs (by omega)
  dsimp only [lawEnv, loopRest, loopBody, List.drop, lawBody, lawScope, lawStmt, PySem.Challenge.pw_ew0039_01] at hf1 hk1 ⊢
  w_on
  subst hkd
  have hk := gd.miss9
  w_strict k_steps
  (show wpAny _ _ _ _ _ _)
  rename Fr h₀ L _ _ => kF
  rename News h₀ L _ _ => kN
  rename Obj.IsDictOf _ _ _ => hdN
  rename PyProof.V.FlatPairs _ _ _ => hfN
  refine' h _ _ P pvs np _ _ _ _ _ _ [] _ (canonF kF rfl rfl rfl rfl rfl) ?nn hp hdN hfN hdue (told_same htold htd) (fun p hp => nomatch hp) ?b1 ?b2 ?b3 ?b4 ?b5
  case nn => (intro p hp; (repeat (rcases List.mem_cons.mp hp with rfl | hp; (focus exact kN _ (by k_mem)))); exact kN _ (by k_mem))
  case b1 => (try dsimp only [elt]); (first | assumption | omega)
  case b2 => (try dsimp only [elt]); (first | assumption | omega)
  case b3 => (try dsimp only [elt]); (first | assumption | omega)
  case b4 => (try dsimp only [elt]); (first | assumption | omega)
  case b5 => (try dsimp only [elt]); (first | assumption | omega)
end
end Ruc
end
section
open PySem PySem.W PySem.Calls PySem.Spec PyProof.Rows
set_option maxHeartbeats 1500000
namespace Ruc
theorem fillRu20 : PySem.Challenge.rw_ew0039_01.row.prog = PySem.Challenge.rw_ew0039_01.row.prog ∧ hd.heap_39 = hd.heap_39 := by k_fill; exact ⟨rfl, rfl⟩
local macro_rules | `(tactic| k_room) => `(tactic| (simp only [depth_under_make, depth_under_kw, depth_in1, depth_deeper, depth_caller, Ar]; omega))
local macro_rules | `(tactic| k_mem) => `(tactic| assumption)
local macro_rules | `(tactic| k_all) => `(tactic| assumption)
local macro_rules | `(tactic| walk_at "ruc enter") => `(tactic| (refine wpAny_call ?_; (refine' code_def ?B ?F ?X ?N ?T rfl ?f1 ?f2 ?k6 ?k7 ?k8 ?k9 ?kB ?_ ?c2 ?c3 ?c4 ?c5; (case B => assumption); (case F => assumption); (case X => assumption); (case N => assumption); (case T => assumption); (case f1 => assumption); (case f2 => assumption); (case k6 => k_is); (case k7 => k_is); (case k8 => k_room); (case k9 => exact BindsTo.of_eq rfl); (case c5 => decide); (case kB => exact locs rfl); (case c2 => exact rfl); (case c3 => exact rfl); (case c4 => exact rfl); k_whole; intro g' L' h' FG' F' N' B' X' T'; (try dsimp only); (try k_lift B'); (try k_fold))))
local macro_rules | `(tactic| walk_at "ruc cx") => `(tactic| exact ⟨by assumption, by assumption, by assumption, rfl, rfl, by (first | omega | (dsimp only [Ar]; omega) | (simp only [depth_deeper, depth_in1, Around.deeper_units, Around.in1_units, Ar]; omega)), by (first | omega | (dsimp only [Ar]; omega) | (simp only [depth_deeper, depth_in1, Around.deeper_units, Around.in1_units, Ar]; omega))⟩)
local macro_rules | `(tactic| walk_at "call ref") => `(tactic| (k_here; (with_reducible show wpAny _ _ (call (Value.ref 57) _) _ _ _); k_dflt (refine' len_G (n := 3) ?cx ?F ?N ?md ?mx ?mdx ?hd1 ?hf ?hc ?lo ?_; (case cx => walk_at "ruc cx"); (case F => k_asm); (case N => k_asm); (case mx => k_mem); (case mdx => k_mem); (case md => k_mem); (case hd1 => assumption); (case hf => assumption); (case hc => assumption); (case lo => assumption)); intro h' t' tk' F' N'; (try dsimp only [PySem.W.LenBack]); (try (refine ⟨⟨by omega, by omega⟩, ?_⟩))))
local macro_rules | `(tactic| walk_at "call ref") => `(tactic| (k_here; (with_reducible show wpAny _ _ (call (Value.ref 78) _) _ _ _); k_dflt (refine' keys_G (n := 3) ?cx ?F ?N ?md ?mx ?mdx ?hd1 ?hf ?hc ?hlt ?lo ?_; (case cx => walk_at "ruc cx"); (case F => k_asm); (case N => k_asm); (case mx => k_mem); (case mdx => k_mem); (case md => k_mem); (case hd1 => assumption); (case hf => assumption); (case hc => assumption); (case hlt => (refine ⟨?_, ?_⟩ <;> omega)); (case lo => assumption)); intro S' h' so' tk' F' N' l1 hSK; (try k_lt l1)))
local macro_rules | `(tactic| walk_at "call ref") => `(tactic| (k_here; (with_reducible show wpAny _ _ (call (Value.ref 106) _) _ _ _); k_dflt (refine' walked_G (n := 3) ?cx ?F ?N ?mx ?mdx ?_; (case cx => walk_at "ruc cx"); (case F => k_asm); (case N => k_asm); (case mx => k_mem); (case mdx => k_mem)); intro h' tk' F' N'))
local macro_rules | `(tactic| walk_at "call builtin:len") => `(tactic| (k_here; (with_reducible show wpAny _ _ (call (Value.builtin "len") [Value.ref _]) _ _ _); k_dflt (refine' kst_len ?k1 ?k2 ?k3 ?k4 ?_; (case k1 => k_asm); (case k2 => k_mem); (case k3 => (first | assumption | exact len_snoc _ _ | exact len_cons_snoc _ _ _)); (case k4 => omega); k_whole)))
local macro_rules | `(tactic| walk_at "compareOp NotEq ref ref") => `(tactic| (k_here; k_dflt (refine' ne_ints_same ?N ?ma ?mb ?ia ?ib ?hu ?_; (case N => k_asm); (case ma => k_mem); (case mb => k_mem); (case ia => assumption); (case ib => assumption); (case hu => (first | omega | (dsimp only [Ar]; omega))))))
local macro_rules | `(tactic| walk_at "compareOp NotEq ref ref") => `(tactic| (k_here; k_dflt (refine' ne_sets_N ?N ?ma ?mb ?sa ?sb ?hl ?hu ?_; (case N => k_asm); (case ma => k_mem); (case mb => k_mem); (case sa => assumption); (case sb => assumption); (case hl => assumption); (case hu => (dsimp only [Ar]; omega)))))
local macro_rules | `(tactic| walk_at "eval SetComp") => `(tactic| (refine stop_here ?_))
local macro_rules | `(tactic| walk_at "ruc compS") => `(tactic| ((show wpAny _ _ _ _ _ _); k_dflt (refine' SetComp_S (cl := []) ?F ?a1 ?a2 ?a3 ?a4 ?a5 ?_ ?a6; (case F => k_asm); (case a1 => with_unfolding_all rfl); (case a2 => decide); (case a3 => rfl); (case a4 => decide); (case a5 => rfl); (case a6 => intro _; rfl)); walk1; (refine' CompSrcS.ledger ?a1 ?a2 ?a3 ?a4 ?a5 ?_; (case a1 => rfl); (case a2 => k_asm); (case a3 => k_asm); (case a4 => k_mem); (case a5 => assumption); intro g')))
local macro_rules | `(tactic| walk_at "execs cons") => `(tactic| ((with_reducible show wpAny _ _ (execs (Stmt.If (Expr.BoolOp _ _ _) _ _ _ :: Stmt.If (Expr.BoolOp _ _ _) _ _ _ :: []) _) _ _ _); (refine stop_here ?_)))
local macro_rules | `(tactic| walk_at "exec Assign cons ListComp") => `(tactic| (refine stop_here ?_))
local macro_rules | `(tactic| walk_at "eval ListComp") => `(tactic| (refine stop_here ?_))
local macro_rules | `(tactic| walk_at "ruc compU") => `(tactic| ((show wpAny _ _ _ _ _ _); k_dflt (refine' LCg.ListComp_U ?F ?a1 ?a2 ?a3 ?a4 ?a5 ?_ ?a6; (case F => k_asm); (case a1 => with_unfolding_all rfl); (case a2 => decide); (case a3 => rfl); (case a4 => decide); (case a5 => rfl); (case a6 => intro _; rfl)); walk1; (refine' LCg.CompSrc.ledger ?a1 ?a2 ?a3 ?a4 ?a5 ?_; (case a1 => rfl); (case a2 => k_asm); (case a3 => k_asm); (case a4 => k_mem); (case a5 => assumption); intro g')))
local macro_rules | `(tactic| walk_at "call ref") => `(tactic| (k_here; (with_reducible show wpAny _ _ (call (Value.ref 43) _) _ _ _); k_dflt (refine' setitem_new_G (n := 3) ?cx ?F ?N ?U1 ?mx ?mdx ?hd1 ?hf ?hk ?hc ?hfit ?hlt ?lo ?_; (case cx => walk_at "ruc cx"); (case F => k_asm); (case N => k_asm); (case mx => k_mem); (case mdx => k_mem); (case U1 => k_updF); (case hd1 => assumption); (case hf => assumption); (case hk => assumption); (case hc => assumption); (case hfit => assumption); (case hlt => ((repeat' refine And.intro ?_ ?_) <;> omega)); (case lo => assumption)); intro h' o' kvs' tk' F' N' hdN hfN; (try dsimp only at N')))
local macro_rules | `(tactic| walk_at "call ref") => `(tactic| (k_here; (with_reducible show wpAny _ _ (call (Value.ref 43) _) _ _ _); k_dflt (refine' setitem_old_G (n := 3) ?cx ?F ?N ?U1 ?U2 ?mx ?mdx ?mc ?hd1 ?hf ?hk ?hc ?hI ?hT ?hoT ?hlt ?lo ?hD ?hs ?_; (case cx => walk_at "ruc cx"); (case F => k_asm); (case N => k_asm); (case mx => k_mem); (case mdx => k_mem); (case hD => assumption); (case U1 => k_updF); (case U2 => (intro o'; (try dsimp only); k_updF)); (case mc => k_mem); (case hoT => assumption); (case hI => assumption); (case hd1 => assumption); (case hf => assumption); (case hk => assumption); (case hc => assumption); (case hT => omega); (case hlt => ((repeat' refine And.intro ?_ ?_) <;> omega)); (case lo => assumption); (case hs => (intro p hp'; refine ⟨by k_mem, ?_, ?_⟩ <;> (revert p; assumption)))); intro h' o' kvs' vsT' nT' tk' F' N' hdN hfN hTN; (try dsimp only at N')))
local macro_rules | `(tactic| walk_at "call ref") => `(tactic| (k_here; (with_reducible show wpAny _ _ (call (Value.ref 43) _) _ _ _); k_dflt (refine' setitem_full_G (n := 3) ?cx ?F ?N ?U1 ?U2 ?mx ?mdx ?mc ?hd1 ?hf ?hk ?hc ?hfull ?hfst ?hI ?hT ?hoT ?hlt ?lo ?hD ?hs ?_; (case cx => walk_at "ruc cx"); (case F => k_asm); (case N => k_asm); (case mx => k_mem); (case mdx => k_mem); (case hD => assumption); (case U1 => k_updF); (case U2 => (intro o'; (try dsimp only); k_updF)); (case mc => k_mem); (case hoT => assumption); (case hI => assumption); (case hd1 => assumption); (case hf => assumption); (case hk => assumption); (case hc => assumption); (case hfst => assumption); (case hfull => assumption); (case hT => omega); (case hlt => ((repeat' refine And.intro ?_ ?_) <;> omega)); (case lo => assumption); (case hs => (intro p hp'; refine ⟨by k_mem, ?_, ?_⟩ <;> (revert p; assumption)))); intro h' o' kvs' vsT' nT' tk' F' N' hdN hfN hTN; (try dsimp only at N')))
local macro_rules | `(tactic| walk_at "call ref") => `(tactic| (k_here; (with_reducible show wpAny _ _ (call (Value.ref 99) _) _ _ _); k_dflt (refine' taken_hit_G (n := 3) ?cx ?F ?N ?U1 ?U2 ?mx ?mdx ?mc ?hd1 ?hf ?hk ?hc ?hI ?hT ?hoT ?hlt ?lo ?hD ?hs ?_; (case cx => walk_at "ruc cx"); (case F => k_asm); (case N => k_asm); (case mx => k_mem); (case mdx => k_mem); (case hD => assumption); (case U1 => k_updF); (case U2 => (intro o'; (try dsimp only); k_updF)); (case mc => k_mem); (case hoT => assumption); (case hI => assumption); (case hd1 => assumption); (case hf => assumption); (case hk => assumption); (case hc => assumption); (case hT => omega); (case hlt => ((repeat' refine And.intro ?_ ?_) <;> omega)); (case lo => assumption); (case hs => (intro p hp'; refine ⟨by k_mem, ?_, ?_⟩ <;> (revert p; assumption)))); intro h' o' kvs' vsT' nT' tk' F' N' hdN hfN hTN; (try dsimp only at N')))
local macro_rules | `(tactic| walk_at "call ref") => `(tactic| (k_here; (with_reducible show wpAny _ _ (call (Value.ref 99) _) _ _ _); k_dflt (refine' taken_miss_G (n := 3) ?cx ?F ?N ?md ?mx ?mdx ?hd1 ?hf ?hk ?hc ?hlt ?lo ?_; (case cx => walk_at "ruc cx"); (case F => k_asm); (case N => k_asm); (case mx => k_mem); (case mdx => k_mem); (case md => k_mem); (case hd1 => assumption); (case hf => assumption); (case hk => assumption); (case hc => assumption); (case hlt => ((repeat' refine And.intro ?_ ?_) <;> omega)); (case lo => assumption)); intro h' tk' F' N'))
local macro_rules | `(tactic| walk_at "call ref") => `(tactic| (k_here; (with_reducible show wpAny _ _ (call (Value.ref 92) _) _ _ _); k_dflt (refine' got_miss_G (n := 3) ?cx ?F ?N ?md ?mx ?mdx ?hd1 ?hf ?hk ?hc ?hlt ?lo ?_; (case cx => walk_at "ruc cx"); (case F => k_asm); (case N => k_asm); (case mx => k_mem); (case mdx => k_mem); (case md => k_mem); (case hd1 => assumption); (case hf => assumption); (case hk => assumption); (case hc => assumption); (case hlt => ((repeat' refine And.intro ?_ ?_) <;> omega)); (case lo => assumption)); intro B' nB' h' tk' F' N' l1; (try k_lt l1)))
local macro_rules | `(tactic| walk_at "call ref") => `(tactic| (k_here; (with_reducible show wpAny _ _ (call (Value.ref 92) _) _ _ _); k_dflt (refine' got_hit_G (n := 3) ?cx ?F ?N ?U1 ?mx ?mdx ?hd1 ?hf ?hk ?hc ?hlt ?lo ?_; (case cx => walk_at "ruc cx"); (case F => k_asm); (case N => k_asm); (case mx => k_mem); (case mdx => k_mem); (case U1 => k_updF); (case hd1 => assumption); (case hf => assumption); (case hk => assumption); (case hc => assumption); (case hlt => ((repeat' refine And.intro ?_ ?_) <;> omega)); (case lo => assumption)); intro B' nB' h' o' kvs' t' tk' F' N' l1 hdN hfN; (try dsimp only at N'); (try k_lt l1)))
local macro_rules | `(tactic| walk_at "call ref") => `(tactic| (k_here; (with_reducible show wpAny _ _ (call (Value.ref 71) _) _ _ _); k_dflt (refine' clear_G (n := 3) ?cx ?F ?N ?U1 ?U2 ?mx ?mdx ?mc ?hd1 ?hf ?hc ?hI ?hT ?hoT ?hlt ?lo ?hD ?hs ?_; (case cx => walk_at "ruc cx"); (case F => k_asm); (case N => k_asm); (case mx => k_mem); (case mdx => k_mem); (case hD => assumption); (case U1 => k_updF); (case U2 => (intro o'; (try dsimp only); k_updF)); (case mc => k_mem); (case hoT => assumption); (case hI => assumption); (case hd1 => assumption); (case hf => assumption); (case hc => assumption); (case hT => omega); (case hlt => ((repeat' refine And.intro ?_ ?_) <;> omega)); (case lo => assumption); (case hs => (intro p hp'; refine ⟨by k_mem, ?_, ?_⟩ <;> (revert p; assumption)))); intro h' o' kvs' vsT' nT' tk' F' N' hdN hfN hTN; (try dsimp only at N')))
local macro_rules | `(tactic| walk_at "inplaceOp Add ref") => `(tactic| (k_here; k_dflt (refine' iadd_lists ?F ?N ?U ?mb ?hz ?_; (case F => k_asm); (case N => k_asm); (case U => k_updF); (case mb => k_mem); (case hz => omega)); intro h' n' F' N'; (try dsimp only at N')))
local macro_rules | `(tactic| walk_at "binaryOp Add ref ref") => `(tactic| (k_here; k_dflt (refine' add_listsN ?F ?N ?ma ?mb ?hz ?_; (case F => k_asm); (case N => k_asm); (case ma => k_mem); (case mb => k_mem); (case hz => (simp only [List.length_cons, List.length_nil] <;> omega))); intro D' h' F' N' l1; (try k_lt l1)))
local macro_rules | `(tactic| walk_at "ite") => `(tactic| first | refine ite_pos (by assumption) ?_ | refine ite_neg (by assumption) ?_ | refine ite_pos (by omega) ?_ | refine ite_neg (by omega) ?_)
local macro_rules | `(tactic| walk_at "subscriptTail") => `(tactic| (k_here; (with_reducible show wpAny _ _ (subscriptTail _ _ (Value.ref _) (Value.int 0 _)) _ _ _); k_dflt (refine' head_item ?N ?hm ?_ ?hs ?hg; (case N => k_asm); (case hm => k_mem); (case hs => with_unfolding_all rfl); (case hg => (intro _; with_unfolding_all rfl)))))
local macro_rules | `(tactic| walk_at "subscriptTail Name Slice ref ref") => `(tactic| (k_here; k_dflt (refine' tail_slice ?F ?N ?hm ?hz ?_ ?hs ?ht; (case F => k_asm); (case N => k_asm); (case hm => k_mem); (case hz => (simp only [List.length_cons, List.length_append, List.length_nil]; omega)); (case hs => with_unfolding_all rfl); (case ht => (intro _; with_unfolding_all rfl))); intro D' h' F' N' l1; (try k_lt l1)))
local macro_rules | `(tactic| walk_at "call builtin:list.append") => `(tactic| (k_here; k_dflt (refine' append_K ?k1 ?k2 ?k3 ?_ ?z; (case k1 => k_asm); (case k2 => k_asm); (case k3 => k_upd); (case z => (rw [PySem.sizeLine_eq]; simp only [List.length_append, List.length_cons, List.length_nil, List.size_toArray]; omega)); k_whole); intro h' F' N'; (try k_sweep)))
local macro_rules | `(tactic| k_ne) => `(tactic| (refine neN ?_; (try dsimp only); first | assumption | exact Ne.symm (by assumption) | omega))
section
variable {w : World} {A₀ : Around} {h₀ : Heap} {L x dx d tL DU P NU I fa R H : Addr} {loose : List Str} {mean : ExcName → Option Value} {u mg mb : Str → Option Value} {D U n : Nat}
  {g : Option (List Code)} {s : Shared} {E : Value → Shared → Prop} {Q : Flow → Shared → Prop} {dv : Value} {t1 t2 t3 ts tp tk1 tk2 : Tok} {nn nd np nT nw nr nh : Nat} {o oT oK oC oI : Obj} {kvs : List (Int × Value)} {c : List (Int × Int)} {size pl kd key : Int} {sil : Bool} {tail : List (Addr × Obj)}
  {dvs pvs vsT ws rs hs : List Value} {due told : List Int}
theorem clearb (cx : Cx 10 w A₀ h₀ h₀ [] (lawEnv L fa) L loose mean mg mb D U)
    (F : Fr h₀ L s.heap (fun y => if y = Str.ofString "rest" then some (.ref R) else if y = Str.ofString "held" then some (.ref H) else if y = Str.ofString "kind" then some (.int kd tk1) else if y = Str.ofString "place" then some (.int pl tp) else if y = Str.ofString "due" then some (.ref DU) else if y = Str.ofString "pairs" then some (.ref P) else if y = Str.ofString "silent" then some (.bool sil) else if y = Str.ofString "size" then some (.int size ts) else if y = Str.ofString "numbers" then some (.ref NU) else u y))
    (N : News h₀ L s.heap ((R, W.listOf rs.toArray nr) :: (H, W.listOf hs.toArray nh) :: (I, oI) :: (DU, W.listOf dvs.toArray nd) :: (P, W.listOf pvs.toArray np) :: (d, o) :: (x, instObj 81 dx) :: (dx, selfDict w t1 t2 t3 (.int size ts) dv d nn) :: (tL, W.listOf vsT.toArray nT) :: (NU, W.listOf ws.toArray nw) :: (L + 1 + 1 + 1, oT) :: (L + 1 + 1, oK) :: (L + 1, oC) :: tail))
    (hord : @LT.lt Nat _ (L + 1 + 1 + 1) NU ∧ @LT.lt Nat _ NU tL ∧ @LT.lt Nat _ tL dx ∧ @LT.lt Nat _ dx x ∧ @LT.lt Nat _ x d ∧ @LT.lt Nat _ d DU ∧ @LT.lt Nat _ DU I ∧ @Ne Nat P (L + 1 + 1) ∧ @Ne Nat P d ∧ @Ne Nat P tL ∧ @Ne Nat P DU ∧ @Ne Nat P I)
    (hoT : oT.data = .cell (some (.ref tL))) (hoC : oC.data = .cell (some (.ref x))) (hoK : oK.data = .cell (some (.int key tk2)))
    (hd1 : o.IsDictOf (PySem.intKind prg w) kvs) (hf : PyProof.V.FlatPairs PyData.int kvs (kdfD c)) (hc : c.length ≤ 100) (lo : (d == sysModules) = false)
    (hdue : IntsAre dvs due) (hduel : due.length ≤ 400) (htold : IntsAre vsT told) (htd : told = if sil then [] else due) (hp : PairsIn tail pvs c)
    (hD : DispS sil dv tL (L + 1 + 1 + 1) tail) (hofK : ∀ p ∈ tail, p.1 ≠ L + 1 + 1) (hofd : ∀ p ∈ tail, p.1 ≠ d) (hofT : ∀ p ∈ tail, p.1 ≠ tL) (hofU : ∀ p ∈ tail, p.1 ≠ DU) (hofI : ∀ p ∈ tail, p.1 ≠ I)
    (hHo : Off H L d tL DU I P) (hRo : Off R L d tL DU I P) (hRH : @Ne Nat R H) (hpl0 : 0 ≤ pl)
    (hrs : PairsIn tail rs (c.filter fun q => q.1 != key)) (hhs : PairsIn tail hs (c.filter fun q => q.1 == key)) (gd : Good c size) (hk0 : 0 ≤ key) (hk5 : key < 5) (hsz : size ≤ 4)
    (hkd : kd = 7) (hlow : ¬ key < 3)
    (h : ∀ h' tk' P' pvs' np' o' kvs' dvs' nd' vsT' nT' extra (u' : Str → Option Value), Fr h₀ L h' (fun y => if y = Str.ofString "due" then some (.ref DU) else if y = Str.ofString "pairs" then some (.ref P') else if y = Str.ofString "silent" then some (.bool sil) else if y = Str.ofString "size" then some (.int size ts) else if y = Str.ofString "numbers" then some (.ref NU) else u' y) →
      News h₀ L h' ((I, oI) :: (DU, W.listOf dvs'.toArray nd') :: (P', W.listOf pvs'.toArray np') :: (d, o') :: (x, instObj 81 dx) :: (dx, selfDict w t1 t2 t3 (.int size ts) dv d nn) :: (tL, W.listOf vsT'.toArray nT') :: (NU, W.listOf ws.toArray nw) :: (L + 1 + 1 + 1, oT) :: (L + 1 + 1, oK) :: (L + 1, oC) :: (extra ++ tail)) → PairsIn (extra ++ tail) pvs' (([] : List (Int × Int))) → o'.IsDictOf (PySem.intKind prg w) kvs' → PyProof.V.FlatPairs PyData.int kvs' (kdfD (([] : List (Int × Int)))) → IntsAre dvs' (due ++ c.map (·.2)) → IntsAre vsT' (if sil then [] else due ++ c.map (·.2)) →
      (∀ p ∈ extra, p.1 ≠ L + 1 + 1 ∧ p.1 ≠ d ∧ p.1 ≠ tL ∧ p.1 ≠ DU ∧ p.1 ≠ I) → @Ne Nat P' (L + 1 + 1) → @Ne Nat P' d → @Ne Nat P' tL → @Ne Nat P' DU → @Ne Nat P' I →
      wpAny (model prg w) (Ar D U g (lawEnv L fa) []) (execs checks (lawEnv L fa)) Q E { s with heap := h', toks := tk' })
    : wpAny (model prg w) (Ar D U g (lawEnv L fa) []) (execs loopRest (lawEnv L fa)) Q E s := by
  obtain ⟨B, X, T, hf1, hk1, hDD, hU⟩ := cx
  obtain ⟨oH1, oH2, oH3, oH4, oH5, oH6⟩ := hHo
  obtain ⟨oR1, oR2, oR3, oR4, oR5, oR6⟩ := hRo
  obtain ⟨q1, q2, q3, q4, q5, q6, q7, q8, q9, q10, q11, q12⟩ := hord
  have hpl := hp.length
  have hrl := hrs.length
  have hhl := hhs.length
  have hss := gd.sz
  have htl : told.length ≤ 400 := by
    rw [htd]
    cases sil with
    | true => exact Nat.zero_le _
    | false => exact hduel
  have hz : ∀ ys : List Value, ys.length ≤ 100 → ys.toArray.size ≤ sizeLine := fun ys hy => by rw [List.size_toArray, PySem.sizeLine_eq]; omega
  have hlr := List.length_filter_le (fun q : Int × Int => q.1 != key) c
  have hlh := List.length_filter_le (fun q : Int × Int => q.1 == key) c
  have hz1 := hz rs (by omega)
  have hz2 := hz hs (by omega)
  have hz3 := hz pvs (by omega)
  dsimp only [lawEnv, loopRest, loopBody, List.drop, lawBody, lawScope, lawStmt, PySem.Challenge.pw_ew0039_01] at hf1 hk1 ⊢
  w_on
  subst hkd
  w_strict k_steps
  w_strict walk_at "ruc compU"
  refine' pm_rest hp (fun t' k' v' t1' t2' nt' I' oI' C' oC' D' m' ys' h' tk' E' hm' hC' hx' F' N' off' ne' => ?_) (fun ys' hys' => ?_)
  · w_strict k_steps
    exact LCg.CompEnd.intro F' N' _ (fun p hp => hp) off' (Or.inr ⟨W.listOf pvs.toArray np, by k_mem, rfl, np, rfl⟩) ⟨rfl, _, rfl⟩
  have hyl : ys'.length ≤ 100 := by rw [hys'.length, List.length_map]; (first | omega | (simp only [List.length_cons, List.length_nil]; omega))
  have hdl := hdue.length
  intro DD hD0 tkD FD ND oD
  have oDU : @Ne Nat DD DU := Ne.symm (off1_mem oD (DU, W.listOf dvs.toArray nd) (by k_mem))
  w_strict k_steps
  (show wpAny _ _ _ _ _ _)
  rename Fr h₀ L _ _ => kF
  rename News h₀ L _ _ => kN
  rename Obj.IsDictOf _ _ _ => hdN
  rename PyProof.V.FlatPairs _ _ _ => hfN
  rename Told sil _ told _ => hTN
  have hP := mem_of kN (p := (_, W.listOf ([] : List Value).toArray 0)) (by k_mem)
  refine' h _ _ (elt hP).1 [] 0 _ _ _ _ _ _ [] _ (canonF kF rfl rfl rfl rfl rfl) ?nn .nil hdN hfN (hdue.append hys') (told_up hTN htd) (fun p hp => nomatch hp) ?b1 ?b2 ?b3 ?b4 ?b5
  case nn => (intro p hp; (repeat (rcases List.mem_cons.mp hp with rfl | hp; (focus exact kN _ (by k_mem)))); exact kN _ (by k_mem))
  case b1 => (try dsimp only [elt]); (first | assumption | omega)
  case b2 => (try dsimp only [elt]); (first | assumption | omega)
  case b3 => (try dsimp only [elt]); (first | assumption | omega)
  case b4 => (try dsimp only [elt]); (first | assumption | omega)
  case b5 => (try dsimp only [elt]); (first | assumption | omega)
end
end Ruc
end
section
open PySem PySem.W PySem.Calls PySem.Spec PyProof.Rows
set_option maxHeartbeats 1500000
namespace Ruc
theorem fillRu21 : PySem.Challenge.rw_ew0039_01.row.prog = PySem.Challenge.rw_ew0039_01.row.prog ∧ hd.heap_39 = hd.heap_39 := by k_fill; exact ⟨rfl, rfl⟩
local macro_rules | `(tactic| k_room) => `(tactic| (simp only [depth_under_make, depth_under_kw, depth_in1, depth_deeper, depth_caller, Ar]; omega))
local macro_rules | `(tactic| k_mem) => `(tactic| assumption)
local macro_rules | `(tactic| k_all) => `(tactic| assumption)
local macro_rules | `(tactic| walk_at "ruc enter") => `(tactic| (refine wpAny_call ?_; (refine' code_def ?B ?F ?X ?N ?T rfl ?f1 ?f2 ?k6 ?k7 ?k8 ?k9 ?kB ?_ ?c2 ?c3 ?c4 ?c5; (case B => assumption); (case F => assumption); (case X => assumption); (case N => assumption); (case T => assumption); (case f1 => assumption); (case f2 => assumption); (case k6 => k_is); (case k7 => k_is); (case k8 => k_room); (case k9 => exact BindsTo.of_eq rfl); (case c5 => decide); (case kB => exact locs rfl); (case c2 => exact rfl); (case c3 => exact rfl); (case c4 => exact rfl); k_whole; intro g' L' h' FG' F' N' B' X' T'; (try dsimp only); (try k_lift B'); (try k_fold))))
local macro_rules | `(tactic| walk_at "ruc cx") => `(tactic| exact ⟨by assumption, by assumption, by assumption, rfl, rfl, by (first | omega | (dsimp only [Ar]; omega) | (simp only [depth_deeper, depth_in1, Around.deeper_units, Around.in1_units, Ar]; omega)), by (first | omega | (dsimp only [Ar]; omega) | (simp only [depth_deeper, depth_in1, Around.deeper_units, Around.in1_units, Ar]; omega))⟩)
local macro_rules | `(tactic| walk_at "call ref") => `(tactic| (k_here; (with_reducible show wpAny _ _ (call (Value.ref 57) _) _ _ _); k_dflt (refine' len_G (n := 3) ?cx ?F ?N ?md ?mx ?mdx ?hd1 ?hf ?hc ?lo ?_; (case cx => walk_at "ruc cx"); (case F => k_asm); (case N => k_asm); (case mx => k_mem); (case mdx => k_mem); (case md => k_mem); (case hd1 => assumption); (case hf => assumption); (case hc => assumption); (case lo => assumption)); intro h' t' tk' F' N'; (try dsimp only [PySem.W.LenBack]); (try (refine ⟨⟨by omega, by omega⟩, ?_⟩))))
local macro_rules | `(tactic| walk_at "call ref") => `(tactic| (k_here; (with_reducible show wpAny _ _ (call (Value.ref 78) _) _ _ _); k_dflt (refine' keys_G (n := 3) ?cx ?F ?N ?md ?mx ?mdx ?hd1 ?hf ?hc ?hlt ?lo ?_; (case cx => walk_at "ruc cx"); (case F => k_asm); (case N => k_asm); (case mx => k_mem); (case mdx => k_mem); (case md => k_mem); (case hd1 => assumption); (case hf => assumption); (case hc => assumption); (case hlt => (refine ⟨?_, ?_⟩ <;> omega)); (case lo => assumption)); intro S' h' so' tk' F' N' l1 hSK; (try k_lt l1)))
local macro_rules | `(tactic| walk_at "call ref") => `(tactic| (k_here; (with_reducible show wpAny _ _ (call (Value.ref 106) _) _ _ _); k_dflt (refine' walked_G (n := 3) ?cx ?F ?N ?mx ?mdx ?_; (case cx => walk_at "ruc cx"); (case F => k_asm); (case N => k_asm); (case mx => k_mem); (case mdx => k_mem)); intro h' tk' F' N'))
local macro_rules | `(tactic| walk_at "call builtin:len") => `(tactic| (k_here; (with_reducible show wpAny _ _ (call (Value.builtin "len") [Value.ref _]) _ _ _); k_dflt (refine' kst_len ?k1 ?k2 ?k3 ?k4 ?_; (case k1 => k_asm); (case k2 => k_mem); (case k3 => (first | assumption | exact len_snoc _ _ | exact len_cons_snoc _ _ _)); (case k4 => omega); k_whole)))
local macro_rules | `(tactic| walk_at "compareOp NotEq ref ref") => `(tactic| (k_here; k_dflt (refine' ne_ints_same ?N ?ma ?mb ?ia ?ib ?hu ?_; (case N => k_asm); (case ma => k_mem); (case mb => k_mem); (case ia => assumption); (case ib => assumption); (case hu => (first | omega | (dsimp only [Ar]; omega))))))
local macro_rules | `(tactic| walk_at "compareOp NotEq ref ref") => `(tactic| (k_here; k_dflt (refine' ne_sets_N ?N ?ma ?mb ?sa ?sb ?hl ?hu ?_; (case N => k_asm); (case ma => k_mem); (case mb => k_mem); (case sa => assumption); (case sb => assumption); (case hl => assumption); (case hu => (dsimp only [Ar]; omega)))))
local macro_rules | `(tactic| walk_at "eval SetComp") => `(tactic| (refine stop_here ?_))
local macro_rules | `(tactic| walk_at "ruc compS") => `(tactic| ((show wpAny _ _ _ _ _ _); k_dflt (refine' SetComp_S (cl := []) ?F ?a1 ?a2 ?a3 ?a4 ?a5 ?_ ?a6; (case F => k_asm); (case a1 => with_unfolding_all rfl); (case a2 => decide); (case a3 => rfl); (case a4 => decide); (case a5 => rfl); (case a6 => intro _; rfl)); walk1; (refine' CompSrcS.ledger ?a1 ?a2 ?a3 ?a4 ?a5 ?_; (case a1 => rfl); (case a2 => k_asm); (case a3 => k_asm); (case a4 => k_mem); (case a5 => assumption); intro g')))
local macro_rules | `(tactic| walk_at "execs cons") => `(tactic| ((with_reducible show wpAny _ _ (execs (Stmt.If (Expr.BoolOp _ _ _) _ _ _ :: Stmt.If (Expr.BoolOp _ _ _) _ _ _ :: []) _) _ _ _); (refine stop_here ?_)))
local macro_rules | `(tactic| walk_at "exec Assign cons ListComp") => `(tactic| (refine stop_here ?_))
local macro_rules | `(tactic| walk_at "eval ListComp") => `(tactic| (refine stop_here ?_))
local macro_rules | `(tactic| walk_at "ruc compU") => `(tactic| ((show wpAny _ _ _ _ _ _); k_dflt (refine' LCg.ListComp_U ?F ?a1 ?a2 ?a3 ?a4 ?a5 ?_ ?a6; (case F => k_asm); (case a1 => with_unfolding_all rfl); (case a2 => decide); (case a3 => rfl); (case a4 => decide); (case a5 => rfl); (case a6 => intro _; rfl)); walk1; (refine' LCg.CompSrc.ledger ?a1 ?a2 ?a3 ?a4 ?a5 ?_; (case a1 => rfl); (case a2 => k_asm); (case a3 => k_asm); (case a4 => k_mem); (case a5 => assumption); intro g')))
local macro_rules | `(tactic| walk_at "call ref") => `(tactic| (k_here; (with_reducible show wpAny _ _ (call (Value.ref 43) _) _ _ _); k_dflt (refine' setitem_new_G (n := 3) ?cx ?F ?N ?U1 ?mx ?mdx ?hd1 ?hf ?hk ?hc ?hfit ?hlt ?lo ?_; (case cx => walk_at "ruc cx"); (case F => k_asm); (case N => k_asm); (case mx => k_mem); (case mdx => k_mem); (case U1 => k_updF); (case hd1 => assumption); (case hf => assumption); (case hk => assumption); (case hc => assumption); (case hfit => assumption); (case hlt => ((repeat' refine And.intro ?_ ?_) <;> omega)); (case lo => assumption)); intro h' o' kvs' tk' F' N' hdN hfN; (try dsimp only at N')))
local macro_rules | `(tactic| walk_at "call ref") => `(tactic| (k_here; (with_reducible show wpAny _ _ (call (Value.ref 43) _) _ _ _); k_dflt (refine' setitem_old_G (n := 3) ?cx ?F ?N ?U1 ?U2 ?mx ?mdx ?mc ?hd1 ?hf ?hk ?hc ?hI ?hT ?hoT ?hlt ?lo ?hD ?hs ?_; (case cx => walk_at "ruc cx"); (case F => k_asm); (case N => k_asm); (case mx => k_mem); (case mdx => k_mem); (case hD => assumption); (case U1 => k_updF); (case U2 => (intro o'; (try dsimp only); k_updF)); (case mc => k_mem); (case hoT => assumption); (case hI => assumption); (case hd1 => assumption); (case hf => assumption); (case hk => assumption); (case hc => assumption); (case hT => omega); (case hlt => ((repeat' refine And.intro ?_ ?_) <;> omega)); (case lo => assumption); (case hs => (intro p hp'; refine ⟨by k_mem, ?_, ?_⟩ <;> (revert p; assumption)))); intro h' o' kvs' vsT' nT' tk' F' N' hdN hfN hTN; (try dsimp only at N')))
local macro_rules | `(tactic| walk_at "call ref") => `(tactic| (k_here; (with_reducible show wpAny _ _ (call (Value.ref 43) _) _ _ _); k_dflt (refine' setitem_full_G (n := 3) ?cx ?F ?N ?U1 ?U2 ?mx ?mdx ?mc ?hd1 ?hf ?hk ?hc ?hfull ?hfst ?hI ?hT ?hoT ?hlt ?lo ?hD ?hs ?_; (case cx => walk_at "ruc cx"); (case F => k_asm); (case N => k_asm); (case mx => k_mem); (case mdx => k_mem); (case hD => assumption); (case U1 => k_updF); (case U2 => (intro o'; (try dsimp only); k_updF)); (case mc => k_mem); (case hoT => assumption); (case hI => assumption); (case hd1 => assumption); (case hf => assumption); (case hk => assumption); (case hc => assumption); (case hfst => assumption); (case hfull => assumption); (case hT => omega); (case hlt => ((repeat' refine And.intro ?_ ?_) <;> omega)); (case lo => assumption); (case hs => (intro p hp'; refine ⟨by k_mem, ?_, ?_⟩ <;> (revert p; assumption)))); intro h' o' kvs' vsT' nT' tk' F' N' hdN hfN hTN; (try dsimp only at N')))
local macro_rules | `(tactic| walk_at "call ref") => `(tactic| (k_here; (with_reducible show wpAny _ _ (call (Value.ref 99) _) _ _ _); k_dflt (refine' taken_hit_G (n := 3) ?cx ?F ?N ?U1 ?U2 ?mx ?mdx ?mc ?hd1 ?hf ?hk ?hc ?hI ?hT ?hoT ?hlt ?lo ?hD ?hs ?_; (case cx => walk_at "ruc cx"); (case F => k_asm); (case N => k_asm); (case mx => k_mem); (case mdx => k_mem); (case hD => assumption); (case U1 => k_updF); (case U2 => (intro o'; (try dsimp only); k_updF)); (case mc => k_mem); (case hoT => assumption); (case hI => assumption); (case hd1 => assumption); (case hf => assumption); (case hk => assumption); (case hc => assumption); (case hT => omega); (case hlt => ((repeat' refine And.intro ?_ ?_) <;> omega)); (case lo => assumption); (case hs => (intro p hp'; refine ⟨by k_mem, ?_, ?_⟩ <;> (revert p; assumption)))); intro h' o' kvs' vsT' nT' tk' F' N' hdN hfN hTN; (try dsimp only at N')))
local macro_rules | `(tactic| walk_at "call ref") => `(tactic| (k_here; (with_reducible show wpAny _ _ (call (Value.ref 99) _) _ _ _); k_dflt (refine' taken_miss_G (n := 3) ?cx ?F ?N ?md ?mx ?mdx ?hd1 ?hf ?hk ?hc ?hlt ?lo ?_; (case cx => walk_at "ruc cx"); (case F => k_asm); (case N => k_asm); (case mx => k_mem); (case mdx => k_mem); (case md => k_mem); (case hd1 => assumption); (case hf => assumption); (case hk => assumption); (case hc => assumption); (case hlt => ((repeat' refine And.intro ?_ ?_) <;> omega)); (case lo => assumption)); intro h' tk' F' N'))
local macro_rules | `(tactic| walk_at "call ref") => `(tactic| (k_here; (with_reducible show wpAny _ _ (call (Value.ref 92) _) _ _ _); k_dflt (refine' got_miss_G (n := 3) ?cx ?F ?N ?md ?mx ?mdx ?hd1 ?hf ?hk ?hc ?hlt ?lo ?_; (case cx => walk_at "ruc cx"); (case F => k_asm); (case N => k_asm); (case mx => k_mem); (case mdx => k_mem); (case md => k_mem); (case hd1 => assumption); (case hf => assumption); (case hk => assumption); (case hc => assumption); (case hlt => ((repeat' refine And.intro ?_ ?_) <;> omega)); (case lo => assumption)); intro B' nB' h' tk' F' N' l1; (try k_lt l1)))
local macro_rules | `(tactic| walk_at "call ref") => `(tactic| (k_here; (with_reducible show wpAny _ _ (call (Value.ref 92) _) _ _ _); k_dflt (refine' got_hit_G (n := 3) ?cx ?F ?N ?U1 ?mx ?mdx ?hd1 ?hf ?hk ?hc ?hlt ?lo ?_; (case cx => walk_at "ruc cx"); (case F => k_asm); (case N => k_asm); (case mx => k_mem); (case mdx => k_mem); (case U1 => k_updF); (case hd1 => assumption); (case hf => assumption); (case hk => assumption); (case hc => assumption); (case hlt => ((repeat' refine And.intro ?_ ?_) <;> omega)); (case lo => assumption)); intro B' nB' h' o' kvs' t' tk' F' N' l1 hdN hfN; (try dsimp only at N'); (try k_lt l1)))
local macro_rules | `(tactic| walk_at "call ref") => `(tactic| (k_here; (with_reducible show wpAny _ _ (call (Value.ref 71) _) _ _ _); k_dflt (refine' clear_G (n := 3) ?cx ?F ?N ?U1 ?U2 ?mx ?mdx ?mc ?hd1 ?hf ?hc ?hI ?hT ?hoT ?hlt ?lo ?hD ?hs ?_; (case cx => walk_at "ruc cx"); (case F => k_asm); (case N => k_asm); (case mx => k_mem); (case mdx => k_mem); (case hD => assumption); (case U1 => k_updF); (case U2 => (intro o'; (try dsimp only); k_updF)); (case mc => k_mem); (case hoT => assumption); (case hI => assumption); (case hd1 => assumption); (case hf => assumption); (case hc => assumption); (case hT => omega); (case hlt => ((repeat' refine And.intro ?_ ?_) <;> omega)); (case lo => assumption); (case hs => (intro p hp'; refine ⟨by k_mem, ?_, ?_⟩ <;> (revert p; assumption)))); intro h' o' kvs' vsT' nT' tk' F' N' hdN hfN hTN; (try dsimp only at N')))
local macro_rules | `(tactic| walk_at "inplaceOp Add ref") => `(tactic| (k_here; k_dflt (refine' iadd_lists ?F ?N ?U ?mb ?hz ?_; (case F => k_asm); (case N => k_asm); (case U => k_updF); (case mb => k_mem); (case hz => omega)); intro h' n' F' N'; (try dsimp only at N')))
local macro_rules | `(tactic| walk_at "binaryOp Add ref ref") => `(tactic| (k_here; k_dflt (refine' add_listsN ?F ?N ?ma ?mb ?hz ?_; (case F => k_asm); (case N => k_asm); (case ma => k_mem); (case mb => k_mem); (case hz => (simp only [List.length_cons, List.length_nil] <;> omega))); intro D' h' F' N' l1; (try k_lt l1)))
local macro_rules | `(tactic| walk_at "ite") => `(tactic| first | refine ite_pos (by assumption) ?_ | refine ite_neg (by assumption) ?_ | refine ite_pos (by omega) ?_ | refine ite_neg (by omega) ?_)
local macro_rules | `(tactic| walk_at "subscriptTail") => `(tactic| (k_here; (with_reducible show wpAny _ _ (subscriptTail _ _ (Value.ref _) (Value.int 0 _)) _ _ _); k_dflt (refine' head_item ?N ?hm ?_ ?hs ?hg; (case N => k_asm); (case hm => k_mem); (case hs => with_unfolding_all rfl); (case hg => (intro _; with_unfolding_all rfl)))))
local macro_rules | `(tactic| walk_at "subscriptTail Name Slice ref ref") => `(tactic| (k_here; k_dflt (refine' tail_slice ?F ?N ?hm ?hz ?_ ?hs ?ht; (case F => k_asm); (case N => k_asm); (case hm => k_mem); (case hz => (simp only [List.length_cons, List.length_append, List.length_nil]; omega)); (case hs => with_unfolding_all rfl); (case ht => (intro _; with_unfolding_all rfl))); intro D' h' F' N' l1; (try k_lt l1)))
local macro_rules | `(tactic| walk_at "call builtin:list.append") => `(tactic| (k_here; k_dflt (refine' append_K ?k1 ?k2 ?k3 ?_ ?z; (case k1 => k_asm); (case k2 => k_asm); (case k3 => k_upd); (case z => (rw [PySem.sizeLine_eq]; simp only [List.length_append, List.length_cons, List.length_nil, List.size_toArray]; omega)); k_whole); intro h' F' N'; (try k_sweep)))
local macro_rules | `(tactic| k_ne) => `(tactic| (refine neN ?_; (try dsimp only); first | assumption | exact Ne.symm (by assumption) | omega))
local macro_rules | `(tactic| walk_at "compareOp NotEq ref ref") => `(tactic| (refine stop_here ?_))
section
variable {w : World} {A₀ : Around} {h₀ : Heap} {L x dx d tL DU P NU I fa R H : Addr} {loose : List Str} {mean : ExcName → Option Value} {u mg mb : Str → Option Value} {D U n : Nat}
  {g : Option (List Code)} {s : Shared} {E : Value → Shared → Prop} {Q : Flow → Shared → Prop} {dv : Value} {t1 t2 t3 ts tp tk1 tk2 : Tok} {nn nd np nT nw nr nh : Nat} {o oT oK oC oI : Obj} {kvs : List (Int × Value)} {c : List (Int × Int)} {size pl kd key : Int} {sil : Bool} {tail : List (Addr × Obj)}
  {dvs pvs vsT ws rs hs : List Value} {due told : List Int}
theorem after_loop (cx : Cx 10 w A₀ h₀ h₀ [] (lawEnv L fa) L loose mean mg mb D U)
    (F : Fr h₀ L s.heap (fun y => if y = Str.ofString "due" then some (.ref DU) else if y = Str.ofString "pairs" then some (.ref P) else if y = Str.ofString "silent" then some (.bool sil) else if y = Str.ofString "size" then some (.int size ts) else if y = Str.ofString "numbers" then some (.ref NU) else u y))
    (N : News h₀ L s.heap ((DU, W.listOf dvs.toArray nd) :: (P, W.listOf pvs.toArray np) :: (d, o) :: (x, instObj 81 dx) :: (dx, selfDict w t1 t2 t3 (.int size ts) dv d nn) :: (tL, W.listOf vsT.toArray nT) :: (NU, W.listOf ws.toArray nw) :: (L + 1 + 1 + 1, oT) :: (L + 1 + 1, oK) :: (L + 1, oC) :: tail))
    (hord : @LT.lt Nat _ (L + 1 + 1 + 1) NU ∧ @LT.lt Nat _ NU tL ∧ @LT.lt Nat _ tL dx ∧ @LT.lt Nat _ dx x ∧ @LT.lt Nat _ x d ∧ @LT.lt Nat _ d DU ∧ @Ne Nat P (L + 1 + 1) ∧ @Ne Nat P d ∧ @Ne Nat P tL ∧ @Ne Nat P DU)
    (hoT : oT.data = .cell (some (.ref tL))) (hoC : oC.data = .cell (some (.ref x)))
    (hd1 : o.IsDictOf (PySem.intKind prg w) kvs) (hf : PyProof.V.FlatPairs PyData.int kvs (kdfD c)) (hc : c.length ≤ 100) (lo : (d == sysModules) = false)
    (hdue : IntsAre dvs due) (hduel : due.length ≤ 400) (htold : IntsAre vsT told) (htd : told = if sil then [] else due) (hp : PairsIn tail pvs c)
    (hD : DispS sil dv tL (L + 1 + 1 + 1) tail) (hofK : ∀ p ∈ tail, p.1 ≠ L + 1 + 1) (hofd : ∀ p ∈ tail, p.1 ≠ d) (hofT : ∀ p ∈ tail, p.1 ≠ tL) (hofU : ∀ p ∈ tail, p.1 ≠ DU)
    (gd : Good c size)
    (h : ∀ h' tk' m' news', Fr h₀ L h' m' → News h₀ L h' news' → (∀ p ∈ tail, p ∈ news') → Q (.ret (.bool true)) { s with heap := h', toks := tk' })
    : wpAny (model prg w) (Ar D U g (lawEnv L fa) []) (execs afterLoop (lawEnv L fa)) Q E s := by
  obtain ⟨B, X, T, hf1, hk1, hDD, hU⟩ := cx
  obtain ⟨q1, q2, q3, q4, q5, q6, q7, q8, q9, q10⟩ := hord
  have hpl := hp.length
  have htl : told.length ≤ 400 := by
    rw [htd]
    cases sil with
    | true => exact Nat.zero_le _
    | false => exact hduel
  have hz : ∀ ys : List Value, ys.length ≤ 100 → ys.toArray.size ≤ sizeLine := fun ys hy => by rw [List.size_toArray, PySem.sizeLine_eq]; omega
  have hz3 := hz pvs (by omega)
  dsimp only [lawEnv, afterLoop, lawBody, lawScope, lawStmt, PySem.Challenge.pw_ew0039_01] at hf1 hk1 ⊢
  w_on
  w_strict k_steps
  w_strict ((show wpAny _ _ _ _ _ _); k_dflt ((refine' LCg.Assign_ListComp_U (F₀ := ?F) ?a1 ?a2 ?a3 ?a4 ?a5 ?a6 ?a7 ?a8 ?a9 ?_ ?a10); (case F => k_asm); (case a1 => rfl); (case a2 => with_unfolding_all rfl); (case a3 => with_unfolding_all rfl); (case a4 => decide); (case a5 => rfl); (case a6 => decide); (case a7 => rfl); (case a8 => rfl); (case a9 => rfl); (case a10 => intro _; rfl)); walk1; (refine' LCg.CompSrc.ledger ?a1 ?a2 ?a3 ?a4 ?a5 ?_; (case a1 => rfl); (case a2 => k_asm); (case a3 => k_asm); (case a4 => k_mem); (case a5 => assumption); intro g'))
  refine' pm_rest hp (fun t' k' v' t1' t2' nt' I' oI' C' oC' D' m' ys' h' tk' E' hm' hC' hx' F' N' off' ne' => ?_) (fun es hes => ?_)
  · w_strict k_steps
    exact LCg.CompEnd.intro F' N' _ (fun p hp => hp) off' (Or.inr ⟨W.listOf pvs.toArray np, by k_mem, rfl, np, rfl⟩) ⟨rfl, _, rfl⟩
  intro EN hE tkE FE NE oE
  have e1 : @Ne Nat EN d := Ne.symm (off1_mem oE (d, o) (by k_mem))
  have e2 : @Ne Nat EN tL := Ne.symm (off1_mem oE (tL, W.listOf vsT.toArray nT) (by k_mem))
  have e3 : @Ne Nat EN DU := Ne.symm (off1_mem oE (DU, W.listOf dvs.toArray nd) (by k_mem))
  have hesl : es.length ≤ 100 := by rw [hes.length, List.length_map]; omega
  have hz4 := hz es hesl
  have hde : IntsAre (dvs ++ es) (due ++ c.map (·.2)) := hdue.append hes
  have hdl := hdue.length
  w_strict k_steps
  w_strict walk_at "ruc compU"
  refine' gr_rest (tl := tail) (o := o) (fun o gl => (EN, W.listOf es.toArray es.length) :: (DU, W.listOf dvs.toArray nd) :: (P, W.listOf pvs.toArray np) :: (d, o) :: (x, instObj 81 dx) :: (dx, selfDict w t1 t2 t3 (.int size ts) dv d nn) :: (tL, W.listOf vsT.toArray nT) :: (NU, W.listOf ws.toArray nw) :: (L + 1 + 1 + 1, oT) :: (L + 1 + 1, oK) :: (L + 1, oC) :: (gl ++ tail)) (fun p => p.1 ≠ L + 1 + 1 ∧ p.1 ≠ d ∧ p.1 ≠ tL ∧ p.1 ≠ DU) hp gd.nd hd1 hf (fun t' k' v' t1' t2' nt' I' oI' C' oC' D' m' ys' h' tk' E' o2 kvs2 cc gl hm' hC' hx' F' N' off' ne' hd2 hf2 hcl hkk hlk hgo => ?_) (fun ys1 gl1 o3 kvs3 hy1 hg1 hd3 hf3 => ?_)
  · (try dsimp only at N' off')
    obtain ⟨f1, f2, f3⟩ := off3_mem off' (d, o2) (by k_mem)
    (try dsimp only at f1 f2 f3)
    subst hlk
    have hcc : cc.length ≤ 100 := by omega
    have hm2 := List.mem_append_right gl hm'
    have hofd2 : ∀ p ∈ gl ++ tail, p.1 ≠ d := fun p hp => (List.mem_append.mp hp).elim (fun hp => (hgo p hp).2.1) (hofd p)
    w_strict k_steps
    rename Fr h₀ L _ _ => kF
    rename News h₀ L _ _ => kN
    rename Obj.IsDictOf _ _ _ => hdN
    rename PyProof.V.FlatPairs _ _ _ => hfN
    have hB := mem_of kN (p := (_, W.listOf #[.int (kdfLook cc k' 0) _] _)) (by k_mem)
    refine' LCg.CompEnd.intro kF kN _ ?sub ?off (Or.inr ⟨W.listOf pvs.toArray np, ?mm, rfl, np, rfl⟩) ⟨(elt hB).1, _, _, _, _, rfl, rfl, ?oo, hdN, hfN⟩
    case sub => (intro p hp; (repeat (rcases List.mem_cons.mp hp with rfl | hp; (focus k_mem))); k_mem)
    case mm => k_mem
    case oo => (refine ⟨?_, ?_, ?_, ?_⟩ <;> (refine neN ?_; dsimp only [elt]; omega))
    case off =>
      refine ⟨off'.1, off'.2.1, off'.2.2.1, off'.2.2.2.1, off'.2.2.2.2.1, off'.2.2.2.2.2.1, off'.2.2.2.2.2.2.1, off'.2.2.2.2.2.2.2.1, off'.2.2.2.2.2.2.2.2.1, off'.2.2.2.2.2.2.2.2.2.1, off'.2.2.2.2.2.2.2.2.2.2.1, ⟨?o1, ?o2, ?o3⟩, off'.2.2.2.2.2.2.2.2.2.2.2⟩
      case o1 => (try dsimp only [elt]); (first | assumption | omega)
      case o2 => (try dsimp only [elt]); (first | assumption | omega)
      case o3 => (try dsimp only [elt]); (first | assumption | omega)
  intro GD hG tkG FG NG oG
  (try dsimp only at NG oG)
  have g1 : @Ne Nat GD d := Ne.symm (off1_mem oG (d, o3) (by k_mem))
  have g2 : @Ne Nat GD tL := Ne.symm (off1_mem oG (tL, W.listOf vsT.toArray nT) (by k_mem))
  have g3 : @Ne Nat GD DU := Ne.symm (off1_mem oG (DU, W.listOf dvs.toArray nd) (by k_mem))
  w_strict k_steps
  w_strict walk_at "ruc compU"
  refine' lr_rest (fun gl => (GD, W.listOf ys1.toArray ys1.length) :: (EN, W.listOf es.toArray es.length) :: (DU, W.listOf dvs.toArray nd) :: (P, W.listOf pvs.toArray np) :: (d, o3) :: (x, instObj 81 dx) :: (dx, selfDict w t1 t2 t3 (.int size ts) dv d nn) :: (tL, W.listOf vsT.toArray nT) :: (NU, W.listOf ws.toArray nw) :: (L + 1 + 1 + 1, oT) :: (L + 1 + 1, oK) :: (L + 1, oC) :: (gl ++ (gl1 ++ tail))) (fun p => p.1 ≠ d ∧ p.1 ≠ tL ∧ p.1 ≠ DU) hes (fun v' t' I' oI' C' oC' D' m' ys' h' tk' E' gl hC' hx' F' N' off' ne' => ?_) (fun ys2 gl2 hy2 hg2 => ?_)
  · (try dsimp only at N' off')
    w_strict k_steps
    rename Fr h₀ L _ _ => kF
    rename News h₀ L _ _ => kN
    have hB := mem_of kN (p := (_, W.listOf #[.int v' _] _)) (by k_mem)
    refine' LCg.CompEnd.intro kF kN _ ?sub ?off (Or.inr ⟨W.listOf es.toArray es.length, ?mm, rfl, es.length, rfl⟩) ⟨(elt hB).1, _, _, rfl, rfl, ?oo⟩
    case oo => (refine ⟨?_, ?_, ?_⟩ <;> (refine neN ?_; dsimp only [elt]; omega))
    case sub => (intro p hp; (repeat (rcases List.mem_cons.mp hp with rfl | hp; (focus k_mem))); k_mem)
    case mm => k_mem
    case off =>
      refine ⟨off'.1, off'.2.1, off'.2.2.1, off'.2.2.2.1, off'.2.2.2.2.1, off'.2.2.2.2.2.1, off'.2.2.2.2.2.2.1, off'.2.2.2.2.2.2.2.1, off'.2.2.2.2.2.2.2.2.1, off'.2.2.2.2.2.2.2.2.2.1, off'.2.2.2.2.2.2.2.2.2.2.1, off'.2.2.2.2.2.2.2.2.2.2.2.1, ⟨?o1, ?o2, ?o3⟩, off'.2.2.2.2.2.2.2.2.2.2.2.2⟩
      case o1 => (try dsimp only [elt]); (first | assumption | omega)
      case o2 => (try dsimp only [elt]); (first | assumption | omega)
      case o3 => (try dsimp only [elt]); (first | assumption | omega)
  intro LD hL tkL FL NL oL
  (try dsimp only at NL oL)
  have l1 : @Ne Nat LD d := Ne.symm (off1_mem oL (d, o3) (by k_mem))
  have l2 : @Ne Nat LD tL := Ne.symm (off1_mem oL (tL, W.listOf vsT.toArray nT) (by k_mem))
  have l3 : @Ne Nat LD DU := Ne.symm (off1_mem oL (DU, W.listOf dvs.toArray nd) (by k_mem))
  have hall : ∀ q : Addr × Obj → Prop, (∀ p ∈ gl1, q p) → (∀ p ∈ tail, q p) → (∀ p ∈ gl2, q p) → ∀ p ∈ gl2 ++ (gl1 ++ tail), q p := fun q a b c p hp => (List.mem_append.mp hp).elim (c p) fun hp => (List.mem_append.mp hp).elim (a p) (b p)
  w_strict k_steps
  (show wpAny _ _ _ _ _ _)
  have sub1 : ∀ p ∈ gl1, p ∈ gl2 ++ (gl1 ++ tail) := fun p hp => List.mem_append_right _ (List.mem_append_left _ hp)
  have sub2 : ∀ p ∈ gl2, p ∈ gl2 ++ (gl1 ++ tail) := fun p hp => List.mem_append_left _ hp
  have sub3 : ∀ p ∈ tail, p ∈ gl2 ++ (gl1 ++ tail) := fun p hp => List.mem_append_right _ (List.mem_append_right _ hp)
  have hg2d : ∀ p ∈ gl2, p.1 ≠ d ∧ p.1 ≠ tL ∧ p.1 ≠ DU := hg2
  have hofd4 : ∀ p ∈ gl2 ++ (gl1 ++ tail), p.1 ≠ d := hall _ (fun p hp => (hg1 p hp).2.1) hofd (fun p hp => (hg2d p hp).1)
  have hofT4 : ∀ p ∈ gl2 ++ (gl1 ++ tail), p.1 ≠ tL := hall _ (fun p hp => (hg1 p hp).2.2.1) hofT (fun p hp => (hg2d p hp).2.1)
  have hofU4 : ∀ p ∈ gl2 ++ (gl1 ++ tail), p.1 ≠ DU := hall _ (fun p hp => (hg1 p hp).2.2.2) hofU (fun p hp => (hg2d p hp).2.2)
  have hD4 := hD.mono sub3
  clear hD
  rename News h₀ L _ _ => kN
  refine ne_lol (gl := gl1) (gl' := gl2) kN (by k_mem) (by k_mem) hy1 hy2 ?s1 ?s2 (by first | omega | (dsimp only [Ar]; omega)) ?_
  case s1 => (intro p hp; have hp2 := sub1 p hp; k_mem)
  case s2 => (intro p hp; have hp2 := sub2 p hp; k_mem)
  w_strict k_steps
  · decide
  · rename Fr h₀ L _ _ => kF
    rename News h₀ L _ _ => kN
    exact h _ _ _ _ kF kN (fun p hp => by have hp2 := sub3 p hp; k_mem)
  · rename sil = true => hs
    rename decide _ = false => hx
    exfalso
    simp only [hs, if_true] at htd hx
    rw [htd] at hx
    simp at hx
  · decide
  · rename Fr h₀ L _ _ => kF
    rename News h₀ L _ _ => kN
    exact h _ _ _ _ kF kN (fun p hp => by have hp2 := sub3 p hp; k_mem)
  · rename sil = false => hs
    rename ¬ _ = _ => hx
    exfalso
    simp only [hs, Bool.false_eq_true, if_false] at htd hx
    exact hx (by rw [htd])
end
end Ruc
end
section
open PySem PySem.W PySem.Calls PySem.Spec PyProof.Rows
set_option maxHeartbeats 1500000
namespace Ruc

theorem canon_eq {DU P NU : Addr} {sil : Bool} {size : Int} {ts : Tok} {m : Str → Option Value} (e1 : m (Str.ofString "due") = some (.ref DU)) (e2 : m (Str.ofString "pairs") = some (.ref P)) (e3 : m (Str.ofString "silent") = some (.bool sil)) (e4 : m (Str.ofString "size") = some (.int size ts)) (e5 : m (Str.ofString "numbers") = some (.ref NU)) :
    (fun y => if y = Str.ofString "due" then some (.ref DU) else if y = Str.ofString "pairs" then some (.ref P) else if y = Str.ofString "silent" then some (.bool sil) else if y = Str.ofString "size" then some (.int size ts) else if y = Str.ofString "numbers" then some (.ref NU) else m y) = m := by
  funext y
  by_cases h1 : y = Str.ofString "due"
  · rw [if_pos h1, h1, e1]
  rw [if_neg h1]
  by_cases h2 : y = Str.ofString "pairs"
  · rw [if_pos h2, h2, e2]
  rw [if_neg h2]
  by_cases h3 : y = Str.ofString "silent"
  · rw [if_pos h3, h3, e3]
  rw [if_neg h3]
  by_cases h4 : y = Str.ofString "size"
  · rw [if_pos h4, h4, e4]
  rw [if_neg h4]
  by_cases h5 : y = Str.ofString "numbers"
  · rw [if_pos h5, h5, e5]
  rw [if_neg h5]
structure Box (w : World) (L d x dx tL DU NU : Addr) (oT oC : Obj) (size : Int) (sil : Bool) (dv : Value) (ws : List Value) (nums : List Int) : Prop where
  ord : @LT.lt Nat _ (L + 1 + 1 + 1) NU ∧ @LT.lt Nat _ NU tL ∧ @LT.lt Nat _ tL dx ∧ @LT.lt Nat _ dx x ∧ @LT.lt Nat _ x d ∧ @LT.lt Nat _ d DU
  hoT : oT.data = .cell (some (.ref tL))
  hoC : oC.data = .cell (some (.ref x))
  lo : (d == sysModules) = false
  sz : 0 ≤ size ∧ size ≤ 4
  hI : IntsAre ws nums
  hn : nums.length ≤ 38
structure Turn (w : World) (L d x dx tL DU NU : Addr) (oT oC : Obj) (size : Int) (ts t1 t2 t3 : Tok) (nn nw : Nat) (sil : Bool) (dv : Value) (ws : List Value) (bb : Addr × Obj) (i : Nat) (m : Str → Option Value) (news : List (Addr × Obj))
    (c : List (Int × Int)) (due : List Int) (P : Addr) (o : Obj) (kvs : List (Int × Value)) (pvs : List Value) (np : Nat) (dvs : List Value) (nd : Nat) (vsT : List Value) (nT : Nat) (oK : Obj) (vK : Option Value) (tail : List (Addr × Obj)) : Prop where
  news_eq : news = ((DU, W.listOf dvs.toArray nd) :: (P, W.listOf pvs.toArray np) :: (d, o) :: (x, instObj 81 dx) :: (dx, selfDict w t1 t2 t3 (.int size ts) dv d nn) :: (tL, W.listOf vsT.toArray nT) :: (NU, W.listOf ws.toArray nw) :: (L + 1 + 1 + 1, oT) :: (L + 1 + 1, oK) :: (L + 1, oC) :: tail)
  m1 : m (Str.ofString "due") = some (.ref DU)
  m2 : m (Str.ofString "pairs") = some (.ref P)
  m3 : m (Str.ofString "silent") = some (.bool sil)
  m4 : m (Str.ofString "size") = some (.int size ts)
  m5 : m (Str.ofString "numbers") = some (.ref NU)
  hoK : oK.data = .cell vK
  hd1 : o.IsDictOf (PySem.intKind prg w) kvs
  hf : PyProof.V.FlatPairs PyData.int kvs (kdfD c)
  hp : PairsIn tail pvs c
  hdue : IntsAre dvs due
  htold : IntsAre vsT (if sil then [] else due)
  hdl : due.length ≤ 5 * i
  gd : Good c size
  hD : DispS sil dv tL (L + 1 + 1 + 1) tail
  hof : ∀ p ∈ tail, p.1 ≠ L + 1 + 1 ∧ p.1 ≠ d ∧ p.1 ≠ tL ∧ p.1 ≠ DU
  hP : @Ne Nat P (L + 1 + 1) ∧ @Ne Nat P d ∧ @Ne Nat P tL ∧ @Ne Nat P DU
  hB : bb ∈ tail
def Inv (w : World) (L d x dx tL DU NU : Addr) (oT oC : Obj) (size : Int) (ts t1 t2 t3 : Tok) (nn nw : Nat) (sil : Bool) (dv : Value) (ws : List Value) (bb : Addr × Obj) (i : Nat) (m : Str → Option Value) (news : List (Addr × Obj)) : Prop :=
  ∃ c due P o kvs pvs np dvs nd vsT nT oK vK tail, Turn w L d x dx tL DU NU oT oC size ts t1 t2 t3 nn nw sil dv ws bb i m news c due P o kvs pvs np dvs nd vsT nT oK vK tail
theorem fmod_rng (a : Int) {b : Int} (hb : 0 < b) : 0 ≤ a.fmod b ∧ a.fmod b < b := ⟨Int.fmod_nonneg_of_pos a hb, Int.fmod_lt_of_pos a hb⟩
section
variable {w : World} {A₀ : Around} {h₀ : Heap} {L x dx d tL DU NU I fa : Addr} {loose : List Str} {mean : ExcName → Option Value} {m mg mb : Str → Option Value} {D U n : Nat}
  {g : Option (List Code)} {s : Shared} {E : Value → Shared → Prop} {Q : Flow → Shared → Prop} {dv : Value} {t1 t2 t3 ts tp : Tok} {nn nw : Nat} {oT oC oI : Obj} {size pl : Int} {sil : Bool} {ws : List Value} {nums : List Int} {news : List (Addr × Obj)} {bb : Addr × Obj} {i : Nat} {Rest : (Str → Option Value) → List (Addr × Obj) → Prop}
theorem turn_all (cx : Cx 10 w A₀ h₀ h₀ [] (lawEnv L fa) L loose mean mg mb D U) (bx : Box w L d x dx tL DU NU oT oC size sil dv ws nums) (hDI : @LT.lt Nat _ DU I)
    (inv : Inv w L d x dx tL DU NU oT oC size ts t1 t2 t3 nn nw sil dv ws bb i m news) (hoffI : ∀ p ∈ news, p.1 ≠ I) (hi : i ≤ 18) (hpl : 0 ≤ pl) (hpl2 : pl + 1 < nums.length)
    (F : Fr h₀ L s.heap (fun y => if y = Str.ofString "place" then some (.int pl tp) else m y)) (N : News h₀ L s.heap ((I, oI) :: news))
    (hR : ∀ m' news', Inv w L d x dx tL DU NU oT oC size ts t1 t2 t3 nn nw sil dv ws bb (i + 1) m' news' → (∀ p ∈ news', p.1 ≠ I) → Rest m' news') :
    wpAny (model prg w) (Ar D U g (lawEnv L fa) []) (execs loopBody (lawEnv L fa)) (UnrPost h₀ L s I oI Rest Q) E s := by
  obtain ⟨c, due, P, o, kvs, pvs, np, dvs, nd, vsT, nT, oK, vK, tail, T⟩ := inv
  obtain ⟨rfl, m1, m2, m3, m4, m5, hoK, hd1, hf, hp, hdue, htold, hdl, gd, hD, hof, hP, hB⟩ := T
  obtain ⟨hord0, hoT, hoC, lo, hsz, hI, hn⟩ := bx
  have hPI : @Ne Nat P I := hoffI (P, _) (.tail _ (.head _))
  have hofI : ∀ p ∈ tail, p.1 ≠ I := fun p hp => hoffI p (.tail _ (.tail _ (.tail _ (.tail _ (.tail _ (.tail _ (.tail _ (.tail _ (.tail _ (.tail _ hp))))))))))
  have hofK : ∀ p ∈ tail, p.1 ≠ L + 1 + 1 := fun p hp => (hof p hp).1
  have hofd : ∀ p ∈ tail, p.1 ≠ d := fun p hp => (hof p hp).2.1
  have hofT : ∀ p ∈ tail, p.1 ≠ tL := fun p hp => (hof p hp).2.2.1
  have hofU : ∀ p ∈ tail, p.1 ≠ DU := fun p hp => (hof p hp).2.2.2
  have hord : @LT.lt Nat _ (L + 1 + 1 + 1) NU ∧ @LT.lt Nat _ NU tL ∧ @LT.lt Nat _ tL dx ∧ @LT.lt Nat _ dx x ∧ @LT.lt Nat _ x d ∧ @LT.lt Nat _ d DU ∧ @LT.lt Nat _ DU I ∧ @Ne Nat P (L + 1 + 1) ∧ @Ne Nat P d ∧ @Ne Nat P tL ∧ @Ne Nat P DU ∧ @Ne Nat P I :=
    ⟨hord0.1, hord0.2.1, hord0.2.2.1, hord0.2.2.2.1, hord0.2.2.2.2.1, hord0.2.2.2.2.2, hDI, hP.1, hP.2.1, hP.2.2.1, hP.2.2.2, hPI⟩
  have hpsz : pvs.toArray.size ≤ sizeLine := by
    have := gd.sz
    rw [List.size_toArray, hp.length, PySem.sizeLine_eq]; omega
  have ce := canon_eq m1 m2 m3 m4 m5
  have F2 : Fr h₀ L s.heap (fun y => if y = Str.ofString "place" then some (.int pl tp) else (fun y => if y = Str.ofString "due" then some (.ref DU) else if y = Str.ofString "pairs" then some (.ref P) else if y = Str.ofString "silent" then some (.bool sil) else if y = Str.ofString "size" then some (.int size ts) else if y = Str.ofString "numbers" then some (.ref NU) else m y) y) := by rw [ce]; exact F
  refine turn_head cx F2 N hI (by omega) hpl hpl2 hord hofK hp hpsz hoK ?_
  intro h2 tk2 H R hs rs oK2 ta tb kF kN hhs hrs hk3 oH oR hRH
  have hkd := fmod_rng (nums.getD pl.toNat 0) (b := 8) (by decide)
  have hky := fmod_rng (nums.getD (pl + 1).toNat 0) (b := 5) (by decide)
  generalize hkde : (nums.getD pl.toNat 0).fmod 8 = kd at kF hkd
  generalize hkye : (nums.getD (pl + 1).toNat 0).fmod 5 = key at kN hhs hrs hk3 hky
  have fin : ∀ (c' : List (Int × Int)) (due' : List Int) h' tk' P' pvs' np' o' kvs' dvs' nd' vsT' nT' (extra : List (Addr × Obj)) (u' : Str → Option Value), Fr h₀ L h' (fun y => if y = Str.ofString "due" then some (.ref DU) else if y = Str.ofString "pairs" then some (.ref P') else if y = Str.ofString "silent" then some (.bool sil) else if y = Str.ofString "size" then some (.int size ts) else if y = Str.ofString "numbers" then some (.ref NU) else u' y) →
      News h₀ L h' ((I, oI) :: (DU, W.listOf dvs'.toArray nd') :: (P', W.listOf pvs'.toArray np') :: (d, o') :: (x, instObj 81 dx) :: (dx, selfDict w t1 t2 t3 (.int size ts) dv d nn) :: (tL, W.listOf vsT'.toArray nT') :: (NU, W.listOf ws.toArray nw) :: (L + 1 + 1 + 1, oT) :: (L + 1 + 1, oK2) :: (L + 1, oC) :: (extra ++ tail)) →
      PairsIn (extra ++ tail) pvs' c' → o'.IsDictOf (PySem.intKind prg w) kvs' → PyProof.V.FlatPairs PyData.int kvs' (kdfD c') → IntsAre dvs' due' → IntsAre vsT' (if sil then [] else due') →
      (∀ p ∈ extra, p.1 ≠ L + 1 + 1 ∧ p.1 ≠ d ∧ p.1 ≠ tL ∧ p.1 ≠ DU ∧ p.1 ≠ I) → @Ne Nat P' (L + 1 + 1) → @Ne Nat P' d → @Ne Nat P' tL → @Ne Nat P' DU → @Ne Nat P' I → Good c' size → due'.length ≤ due.length + 5 →
      wpAny (model prg w) (Ar D U g (lawEnv L fa) []) (execs checks (lawEnv L fa)) (UnrPost h₀ L s I oI Rest Q) E { s with heap := h', toks := tk' } := by
    intro c' due' h' tk' P' pvs' np' o' kvs' dvs' nd' vsT' nT' extra u' F3 N3 hp3 hd3 hf3 hdue3 ht3 hex p1 p2 p3 p4 p5 gd3 hl3
    have hps3 : pvs'.toArray.size ≤ sizeLine := by
      have := gd3.sz
      rw [List.size_toArray, hp3.length, PySem.sizeLine_eq]; omega
    refine turn_tail cx F3 N3 ⟨hord0.1, hord0.2.1, hord0.2.2.1, hord0.2.2.2.1, hord0.2.2.2.2.1, hord0.2.2.2.2.2, hDI, p1, p2, p3, p4, p5⟩ hp3 hps3 hoT hoC hd3 hf3 (by have := gd3.sz; omega) lo hdue3 (by omega) ht3 ?_
    intro h4 tk4 F4 N4
    have hex2 : ∀ p ∈ extra ++ tail, p.1 ≠ I := fun p hp => (List.mem_append.mp hp).elim (fun hp => (hex p hp).2.2.2.2) (hofI p)
    have hoff4 : ∀ p ∈ (DU, W.listOf dvs'.toArray nd') :: (P', W.listOf pvs'.toArray np') :: (d, o') :: (x, instObj 81 dx) :: (dx, selfDict w t1 t2 t3 (.int size ts) dv d nn) :: (tL, W.listOf vsT'.toArray nT') :: (NU, W.listOf ws.toArray nw) :: (L + 1 + 1 + 1, oT) :: (L + 1 + 1, oK2) :: (L + 1, oC) :: (extra ++ tail), p.1 ≠ I := by
      intro p hp
      (repeat (rcases List.mem_cons.mp hp with rfl | hp; (focus (refine neN ?_; dsimp only; first | assumption | omega))))
      exact hex2 p hp
    exact ⟨_, _, _, _, rfl, F4, N4, hoff4, hR _ _ ⟨c', due', P', o', kvs', pvs', np', dvs', nd', vsT', nT', oK2, _, extra ++ tail, ⟨rfl, rfl, rfl, rfl, rfl, rfl, hk3, hd3, hf3, hp3, hdue3, ht3, by omega, gd3,
      hD.mono (fun p hp => List.mem_append_right _ hp), (fun p hp => (List.mem_append.mp hp).elim (fun hp => ⟨(hex p hp).1, (hex p hp).2.1, (hex p hp).2.2.1, (hex p hp).2.2.2.1⟩) (hof p)), ⟨p1, p2, p3, p4⟩, List.mem_append_right _ hB⟩⟩ hoff4⟩
  have hcl : c.length ≤ 100 := by have := gd.sz; omega
  have hg4 := gd.sz
  have hkey0 := hky.1
  have hkey5 := hky.2
  by_cases h02 : ([0, 2, 3, 4].any fun x => x == kd) = true
  · cases hk : kdfHas c key with
    | true =>
      refine mput_hit cx kF kN hord hoT hoC hk3 hd1 hf hcl lo hdue (by omega) htold rfl hp hD hofK hofd hofT hofU hofI oH oR hRH hpl hrs hhs gd hkey0 hkey5 hsz.2 h02 hk ?_
      intro h' tk' P' pvs' np' o' kvs' dvs' nd' vsT' nT' extra u' a1 a2 a3 a4 a5 a6 a7 a8 b1 b2 b3 b4 b5
      exact fin _ _ _ _ _ _ _ _ _ _ _ _ _ _ _ a1 a2 a3 a4 a5 a6 a7 a8 b1 b2 b3 b4 b5 (gd.hit hk hkey0 hkey5) (by simp)
    | false =>
      by_cases hfit : ((kdfPut c key (pl.fdiv 2 - 1)).length : Int) ≤ size
      · refine mput_new cx kF kN hord hoT hoC hk3 hd1 hf hcl lo hdue (by omega) htold rfl hp hD hofK hofd hofT hofU hofI oH oR hRH hpl hrs hhs gd hkey0 hkey5 hsz.2 h02 hk hfit ?_
        intro h' tk' P' pvs' np' o' kvs' dvs' nd' vsT' nT' extra u' a1 a2 a3 a4 a5 a6 a7 a8 b1 b2 b3 b4 b5
        exact fin _ _ _ _ _ _ _ _ _ _ _ _ _ _ _ a1 a2 a3 a4 a5 a6 a7 a8 b1 b2 b3 b4 b5 (gd.new hk hkey0 hkey5 (by rw [← put_new hk]; exact hfit)) (by simp)
      · obtain ⟨q, c2, hq⟩ : ∃ q c2, kdfPut c key (pl.fdiv 2 - 1) = q :: c2 := by
          rw [put_new hk]
          cases c with
          | nil => exact ⟨_, _, rfl⟩
          | cons q r => exact ⟨_, _, rfl⟩
        obtain ⟨k0, v0⟩ := q
        refine mput_full cx kF kN hord hoT hoC hk3 hd1 hf hcl lo hdue (by omega) htold rfl hp hD hofK hofd hofT hofU hofI oH oR hRH hpl hrs hhs gd hkey0 hkey5 hsz.2 h02 hk (by omega) hq ?_
        intro h' tk' P' pvs' np' o' kvs' dvs' nd' vsT' nT' extra u' a1 a2 a3 a4 a5 a6 a7 a8 b1 b2 b3 b4 b5
        exact fin _ _ _ _ _ _ _ _ _ _ _ _ _ _ _ a1 a2 a3 a4 a5 a6 a7 a8 b1 b2 b3 b4 b5 (gd.full hk hkey0 hkey5 (by rw [← put_new hk]; exact hq)) (by simp)
  · by_cases h15 : ([1, 5].any fun x => x == kd) = true
    · cases hk : kdfHas c key with
      | true =>
        refine gotb_hit cx kF kN hord hoT hoC hk3 hd1 hf hcl lo hdue (by omega) htold rfl hp hD hofK hofd hofT hofU hofI oH oR hRH hpl hrs hhs gd hkey0 hkey5 hsz.2 h02 h15 hk ?_
        intro h' tk' P' pvs' np' o' kvs' dvs' nd' vsT' nT' extra u' a1 a2 a3 a4 a5 a6 a7 a8 b1 b2 b3 b4 b5
        exact fin _ _ _ _ _ _ _ _ _ _ _ _ _ _ _ a1 a2 a3 a4 a5 a6 a7 a8 b1 b2 b3 b4 b5 (gd.hit hk hkey0 hkey5) (by omega)
      | false =>
        refine gotb_miss cx kF kN hord hoT hoC hk3 hd1 hf hcl lo hdue (by omega) htold rfl hp hD hofK hofd hofT hofU hofI oH oR hRH hpl hrs hhs gd hkey0 hkey5 hsz.2 h02 h15 hk ?_
        intro h' tk' P' pvs' np' o' kvs' dvs' nd' vsT' nT' extra u' a1 a2 a3 a4 a5 a6 a7 a8 b1 b2 b3 b4 b5
        exact fin _ _ _ _ _ _ _ _ _ _ _ _ _ _ _ a1 a2 a3 a4 a5 a6 a7 a8 b1 b2 b3 b4 b5 gd (by omega)
    · have h67 : kd = 6 ∨ kd = 7 := by
        simp only [List.any_cons, List.any_nil, Bool.or_false, Bool.or_eq_true, beq_iff_eq, not_or] at h02 h15
        omega
      rcases h67 with h6 | h7
      · cases hk : kdfHas c key with
        | true =>
          refine takenb_hit cx kF kN hord hoT hoC hk3 hd1 hf hcl lo hdue (by omega) htold rfl hp hD hofK hofd hofT hofU hofI oH oR hRH hpl hrs hhs gd hkey0 hkey5 hsz.2 h6 hk ?_
          intro h' tk' P' pvs' np' o' kvs' dvs' nd' vsT' nT' extra u' a1 a2 a3 a4 a5 a6 a7 a8 b1 b2 b3 b4 b5
          exact fin _ _ _ _ _ _ _ _ _ _ _ _ _ _ _ a1 a2 a3 a4 a5 a6 a7 a8 b1 b2 b3 b4 b5 gd.out (by simp)
        | false =>
          refine takenb_miss cx kF kN hord hoT hoC hk3 hd1 hf hcl lo hdue (by omega) htold rfl hp hD hofK hofd hofT hofU hofI oH oR hRH hpl hrs hhs gd hkey0 hkey5 hsz.2 h6 hk ?_
          intro h' tk' P' pvs' np' o' kvs' dvs' nd' vsT' nT' extra u' a1 a2 a3 a4 a5 a6 a7 a8 b1 b2 b3 b4 b5
          exact fin _ _ _ _ _ _ _ _ _ _ _ _ _ _ _ a1 a2 a3 a4 a5 a6 a7 a8 b1 b2 b3 b4 b5 gd (by omega)
      · by_cases hlow : key < 3
        · refine lowb cx kF kN hord hoT hoC hk3 hd1 hf hcl lo hdue (by omega) htold rfl hp hD hofK hofd hofT hofU hofI oH oR hRH hpl hrs hhs gd hkey0 hkey5 hsz.2 h7 hlow ?_
          intro h' tk' P' pvs' np' o' kvs' dvs' nd' vsT' nT' extra u' a1 a2 a3 a4 a5 a6 a7 a8 b1 b2 b3 b4 b5
          exact fin _ _ _ _ _ _ _ _ _ _ _ _ _ _ _ a1 a2 a3 a4 a5 a6 a7 a8 b1 b2 b3 b4 b5 gd (by omega)
        · refine clearb cx kF kN hord hoT hoC hk3 hd1 hf hcl lo hdue (by omega) htold rfl hp hD hofK hofd hofT hofU hofI oH oR hRH hpl hrs hhs gd hkey0 hkey5 hsz.2 h7 hlow ?_
          intro h' tk' P' pvs' np' o' kvs' dvs' nd' vsT' nT' extra u' a1 a2 a3 a4 a5 a6 a7 a8 b1 b2 b3 b4 b5
          exact fin _ _ _ _ _ _ _ _ _ _ _ _ _ _ _ a1 a2 a3 a4 a5 a6 a7 a8 b1 b2 b3 b4 b5 (Good.nil hsz.1) (by rw [List.length_append, List.length_map]; omega)
end
end Ruc
end
section
open PySem PySem.W PySem.Calls PySem.Spec PyProof.Rows
set_option maxHeartbeats 1000000
namespace Ruc
theorem small_two {b : Int} (h1 : -10 ≤ b) (h2 : b ≤ 100) : Builtin.Range.small 2 b 2 = true := by
  unfold Builtin.Range.small Builtin.Range.rangeSize
  simp only [Builtin.Range.rangeFitsLong, Bool.and_eq_true, Bool.or_eq_true, decide_eq_true_eq, beq_iff_eq, show (2 : Int) > 0 by decide, if_true]
  split <;> omega
theorem place_in {b : Int} {i : Nat} (h : (i : Int) < Builtin.Range.rangeSize 2 b 2) : 2 + (i : Int) * 2 < b := by
  unfold Builtin.Range.rangeSize at h
  simp only [show (2 : Int) > 0 by decide, if_true] at h
  split at h <;> omega
theorem few_places {b : Int} (h2 : b ≤ 37) : Builtin.Range.rangeSize 2 b 2 ≤ 18 := by
  unfold Builtin.Range.rangeSize
  simp only [show (2 : Int) > 0 by decide, if_true]
  split <;> omega
section
variable {w : World} {A₀ : Around} {h₀ : Heap} {L x dx d tL DU NU fa r : Addr} {loose : List Str} {mean : ExcName → Option Value} {m₀ mg mb : Str → Option Value} {D U : Nat}
  {g : Option (List Code)} {s : Shared} {E : Value → Shared → Prop} {Q : Flow → Shared → Prop} {dv : Value} {t1 t2 t3 ts t₀ u₀ v₀ : Tok} {nn nw : Nat} {oT oC : Obj} {size : Int} {sil : Bool} {ws : List Value} {nums : List Int} {news₀ : List (Addr × Obj)} {bb : Addr × Obj}
theorem loop_all (cx : Cx 10 w A₀ h₀ h₀ [] (lawEnv L fa) L loose mean mg mb D U) (bx : Box w L d x dx tL DU NU oT oC size sil dv ws nums)
    (hr : IsRange s.heap r 2 ((nums.length : Int) - 1) 2 t₀ u₀ v₀) (F : Fr h₀ L s.heap m₀) (N : News h₀ L s.heap news₀) (inv0 : Inv w L d x dx tL DU NU oT oC size ts t1 t2 t3 nn nw sil dv ws bb 0 m₀ news₀)
    (hQ : ∀ i m news h tk, i ≤ 18 → Inv w L d x dx tL DU NU oT oC size ts t1 t2 t3 nn nw sil dv ws bb i m news → Fr h₀ L h m → News h₀ L h news → Q .next { s with heap := h, toks := tk }) :
    wpAny (model prg w) (Ar D U g (lawEnv L fa) []) (pyIter (.ref r)) (fun it s₂ => LoopAtV prg w (Ar D U g (lawEnv L fa) []) h₀ (lawEnv L fa) (Str.ofString "place") loopBody Q E it s₂) E s := by
  have hn0 := bx.hn
  refine krs_iter (n := (Builtin.Range.rangeSize 2 ((nums.length : Int) - 1) 2).toNat) rfl hr (small_two (by omega) (by omega)) (rangeSize_toNat _ _ _) F N ?_
  intro I hI
  have hDI : @LT.lt Nat _ DU I := by
    obtain ⟨c, due, P, o, kvs, pvs, np, dvs, nd, vsT, nT, oK, vK, tail, T⟩ := inv0
    have := T.news_eq
    exact hI (DU, _) (by rw [this]; exact .head _)
  have hle := few_places (b := (nums.length : Int) - 1) (by omega)
  have key : ∀ (k i : Nat) (m : Str → Option Value) (news : List (Addr × Obj)), i + k = (Builtin.Range.rangeSize 2 ((nums.length : Int) - 1) 2).toNat → Inv w L d x dx tL DU NU oT oC size ts t1 t2 t3 nn nw sil dv ws bb i m news → (∀ p ∈ news, p.1 ≠ I) →
      KrsRest prg w (Ar D U g (lawEnv L fa) []) E h₀ (lawEnv L fa) (Str.ofString "place") loopBody Q s I 2 2 (Builtin.Range.rangeSize 2 ((nums.length : Int) - 1) 2).toNat k i m news := by
    intro k
    induction k with
    | zero =>
      intro i m news hi inv off
      refine KrsRest.zero fun h tk F N => ?_
      exact hQ i m news h tk (by omega) inv F N
    | succ k ih =>
      intro i m news hi inv off t h tk F N
      have hin : (i : Int) < Builtin.Range.rangeSize 2 ((nums.length : Int) - 1) 2 := by omega
      have hpl := place_in hin
      exact turn_all (s := { s with heap := h, toks := tk }) cx bx hDI inv off (by omega) (by omega) (by omega) F N fun m' news' inv' off' => ih (i + 1) m' news' (by omega) inv' off'
  exact key _ 0 m₀ news₀ (by omega) inv0 fun p hp => Nat.ne_of_lt (hI p hp)
end
end Ruc
end
section
open PySem PySem.W PySem.Calls PySem.Spec PyProof.Rows
set_option maxHeartbeats 1000000
namespace Ruc
section
variable {w : World} {A₀ : Around} {h₀ : Heap} {L x dx d tL DU P NU fa r : Addr} {loose : List Str} {mean : ExcName → Option Value} {m₀ mg mb : Str → Option Value} {D U : Nat}
  {g : Option (List Code)} {s : Shared} {E : Value → Shared → Prop} {Q Q2 : Flow → Shared → Prop} {dv : Value} {t1 t2 t3 ts t₀ u₀ v₀ : Tok} {nn nw : Nat} {oT oC oK o : Obj} {vK : Option Value} {size : Int} {sil : Bool} {ws : List Value} {nums : List Int} {news₀ : List (Addr × Obj)} {bb : Addr × Obj}
theorem start_core (cx : Cx 10 w A₀ h₀ h₀ [] (lawEnv L fa) L loose mean mg mb D U) (bx : Box w L d x dx tL DU NU oT oC size sil dv ws nums)
    (hr : IsRange s.heap r 2 ((nums.length : Int) - 1) 2 t₀ u₀ v₀) (F : Fr h₀ L s.heap m₀) (N : News h₀ L s.heap news₀) (inv0 : Inv w L d x dx tL DU NU oT oC size ts t1 t2 t3 nn nw sil dv ws bb 0 m₀ news₀)
    (hnext : ∀ s', wpAny (model prg w) (Ar D U g (lawEnv L fa) []) (execs afterLoop (lawEnv L fa)) Q2 E s' → Q .next s')
    (hret : ∀ h' tk' m' news', Fr h₀ L h' m' → News h₀ L h' news' → bb ∈ news' → Q2 (.ret (.bool true)) { s with heap := h', toks := tk' }) :
    wpAny (model prg w) (Ar D U g (lawEnv L fa) []) (pyIter (.ref r)) (fun it s₂ => LoopAtV prg w (Ar D U g (lawEnv L fa) []) h₀ (lawEnv L fa) (Str.ofString "place") loopBody Q E it s₂) E s := by
  refine loop_all cx bx hr F N inv0 fun i m news h tk hi inv F N => hnext _ ?_
  obtain ⟨c, due, P, o, kvs, pvs, np, dvs, nd, vsT, nT, oK, vK, tail, T⟩ := inv
  obtain ⟨rfl, m1, m2, m3, m4, m5, hoK, hd1, hf, hp, hdue, htold, hdl, gd, hD, hof, hP, hB⟩ := T
  obtain ⟨q1, hoT, hoC, lo, hsz, hI, hn⟩ := bx
  have ce := canon_eq m1 m2 m3 m4 m5
  have hs := gd.sz
  exact after_loop (s := { s with heap := h, toks := tk }) cx (by rw [ce]; exact F) N ⟨q1.1, q1.2.1, q1.2.2.1, q1.2.2.2.1, q1.2.2.2.2.1, q1.2.2.2.2.2, hP.1, hP.2.1, hP.2.2.1, hP.2.2.2⟩ hoT hoC hd1 hf (by omega) lo hdue (by omega) htold rfl hp hD
    (fun p hp => (hof p hp).1) (fun p hp => (hof p hp).2.1) (fun p hp => (hof p hp).2.2.1) (fun p hp => (hof p hp).2.2.2) gd fun h' tk' m' news' F' N' sb => hret h' tk' m' news' F' N' (sb _ hB)
theorem start_s {nd0 np0 nT0 : Nat} {q1 q2 q3 q4 q5 q6 : Addr} {o1 o2 o3 o4 o5 o6 : Obj} (cx : Cx 10 w A₀ h₀ h₀ [] (lawEnv L fa) L loose mean mg mb D U)
    (hr : IsRange s.heap r 2 ((nums.length : Int) - 1) 2 t₀ u₀ v₀) (F : Fr h₀ L s.heap m₀)
    (N : News h₀ L s.heap [(DU, W.listOf #[] nd0), (P, W.listOf #[] np0), (d, o), (x, instObj 81 dx), (dx, selfDict w t1 t2 t3 (.int size ts) .none d nn), (tL, W.listOf #[] nT0), (NU, W.listOf ws.toArray nw), (q1, o1), (q2, o2), (q3, o3), (q4, o4), (q5, o5), (L + 1 + 1 + 1, oT), (L + 1 + 1, oK), (L + 1, oC), (q6, o6)])
    (m1 : m₀ (Str.ofString "due") = some (.ref DU)) (m2 : m₀ (Str.ofString "pairs") = some (.ref P)) (m3 : m₀ (Str.ofString "silent") = some (.bool sil)) (m4 : m₀ (Str.ofString "size") = some (.int size ts)) (m5 : m₀ (Str.ofString "numbers") = some (.ref NU))
    (hsil : sil = true) (hd1 : o.IsDictOf (PySem.intKind prg w) []) (lo : (d == sysModules) = false) (hI : IntsAre ws nums) (hoT : oT.data = .cell (some (.ref tL))) (hoC : oC.data = .cell (some (.ref x))) (hoK : oK.data = .cell vK)
    (hn : nums.length ≤ 38) (hsz : 0 ≤ size ∧ size ≤ 4)
    (hord : @LT.lt Nat _ (L + 1 + 1 + 1) NU ∧ @LT.lt Nat _ NU tL ∧ @LT.lt Nat _ tL dx ∧ @LT.lt Nat _ dx x ∧ @LT.lt Nat _ x d ∧ @LT.lt Nat _ d P ∧ @LT.lt Nat _ P DU ∧ @LT.lt Nat _ q6 L)
    (hnext : ∀ s', wpAny (model prg w) (Ar D U g (lawEnv L fa) []) (execs afterLoop (lawEnv L fa)) Q2 E s' → Q .next s')
    (hret : ∀ h' tk' m' news', Fr h₀ L h' m' → News h₀ L h' news' → (q6, o6) ∈ news' → Q2 (.ret (.bool true)) { s with heap := h', toks := tk' }) :
    wpAny (model prg w) (Ar D U g (lawEnv L fa) []) (pyIter (.ref r)) (fun it s₂ => LoopAtV prg w (Ar D U g (lawEnv L fa) []) h₀ (lawEnv L fa) (Str.ofString "place") loopBody Q E it s₂) E s := by
  have N2 : News h₀ L s.heap ((DU, W.listOf ([] : List Value).toArray nd0) :: (P, W.listOf ([] : List Value).toArray np0) :: (d, o) :: (x, instObj 81 dx) :: (dx, selfDict w t1 t2 t3 (.int size ts) .none d nn) :: (tL, W.listOf ([] : List Value).toArray nT0) :: (NU, W.listOf ws.toArray nw) :: (L + 1 + 1 + 1, oT) :: (L + 1 + 1, oK) :: (L + 1, oC) :: [(q6, o6)]) := by
    intro p hp
    (repeat (rcases List.mem_cons.mp hp with rfl | hp; (focus exact N _ (by k_mem))))
    exact nomatch hp
  refine start_core (bb := (q6, o6)) (dv := .none) (sil := sil) (t1 := t1) (t2 := t2) (t3 := t3) (ts := ts) (nn := nn) (nw := nw) cx ⟨⟨hord.1, hord.2.1, hord.2.2.1, hord.2.2.2.1, hord.2.2.2.2.1, Nat.lt_trans hord.2.2.2.2.2.1 hord.2.2.2.2.2.2.1⟩, hoT, hoC, lo, hsz, hI, hn⟩ hr F N2 ?_ hnext hret
  refine ⟨[], [], P, o, [], [], np0, [], nd0, [], nT0, oK, vK, _, ⟨rfl, m1, m2, m3, m4, m5, hoK, hd1, .nil, .nil, .nil, ?_, Nat.zero_le _, Good.nil hsz.1, .inl ⟨hsil, rfl⟩, ?_, ?_, .head _⟩⟩
  · cases sil <;> exact .nil
  · intro p hp
    rcases List.mem_cons.mp hp with rfl | hp
    · refine ⟨?_, ?_, ?_, ?_⟩ <;> (refine neN ?_; dsimp only; omega)
    exact nomatch hp
  · refine ⟨?_, ?_, ?_, ?_⟩ <;> omega
theorem start_n {nd0 np0 nT0 : Nat} {q1 q2 q3 q4 q5 q6 f c' : Addr} {o1 o2 o3 o4 o5 o6 oc : Obj} {qual : Str} {pm ctv : Value} {vs : Array Value} {tq : Tok} (cx : Cx 10 w A₀ h₀ h₀ [] (lawEnv L fa) L loose mean mg mb D U)
    (hr : IsRange s.heap r 2 ((nums.length : Int) - 1) 2 t₀ u₀ v₀) (F : Fr h₀ L s.heap m₀)
    (N : News h₀ L s.heap [(DU, W.listOf #[] nd0), (P, W.listOf #[] np0), (d, o), (x, instObj 81 dx), (dx, selfDict w t1 t2 t3 (.int size ts) (.ref f) d nn), (f, lamObj qual (L + 1 + 1 + 1) pm c' ctv), (c', oc), (tL, W.listOf #[] nT0), (NU, W.listOf ws.toArray nw), (q1, o1), (q2, o2), (q3, o3), (q4, o4), (q5, o5), (L + 1 + 1 + 1, oT), (L + 1 + 1, oK), (L + 1, oC), (q6, o6)])
    (m1 : m₀ (Str.ofString "due") = some (.ref DU)) (m2 : m₀ (Str.ofString "pairs") = some (.ref P)) (m3 : m₀ (Str.ofString "silent") = some (.bool sil)) (m4 : m₀ (Str.ofString "size") = some (.int size ts)) (m5 : m₀ (Str.ofString "numbers") = some (.ref NU))
    (hsil : sil = false) (hd1 : o.IsDictOf (PySem.intKind prg w) []) (lo : (d == sysModules) = false) (hI : IntsAre ws nums) (hoT : oT.data = .cell (some (.ref tL))) (hoC : oC.data = .cell (some (.ref x))) (hoK : oK.data = .cell vK) (hoc : oc.data = .fields vs) (hvs : vs[1]? = some (.str qual tq))
    (hn : nums.length ≤ 38) (hsz : 0 ≤ size ∧ size ≤ 4)
    (hord : @LT.lt Nat _ (L + 1 + 1 + 1) NU ∧ @LT.lt Nat _ NU tL ∧ @LT.lt Nat _ tL c' ∧ @LT.lt Nat _ c' f ∧ @LT.lt Nat _ f dx ∧ @LT.lt Nat _ dx x ∧ @LT.lt Nat _ x d ∧ @LT.lt Nat _ d P ∧ @LT.lt Nat _ P DU ∧ @LT.lt Nat _ q6 L)
    (hnext : ∀ s', wpAny (model prg w) (Ar D U g (lawEnv L fa) []) (execs afterLoop (lawEnv L fa)) Q2 E s' → Q .next s')
    (hret : ∀ h' tk' m' news', Fr h₀ L h' m' → News h₀ L h' news' → (q6, o6) ∈ news' → Q2 (.ret (.bool true)) { s with heap := h', toks := tk' }) :
    wpAny (model prg w) (Ar D U g (lawEnv L fa) []) (pyIter (.ref r)) (fun it s₂ => LoopAtV prg w (Ar D U g (lawEnv L fa) []) h₀ (lawEnv L fa) (Str.ofString "place") loopBody Q E it s₂) E s := by
  have N2 : News h₀ L s.heap ((DU, W.listOf ([] : List Value).toArray nd0) :: (P, W.listOf ([] : List Value).toArray np0) :: (d, o) :: (x, instObj 81 dx) :: (dx, selfDict w t1 t2 t3 (.int size ts) (.ref f) d nn) :: (tL, W.listOf ([] : List Value).toArray nT0) :: (NU, W.listOf ws.toArray nw) :: (L + 1 + 1 + 1, oT) :: (L + 1 + 1, oK) :: (L + 1, oC) :: [(f, lamObj qual (L + 1 + 1 + 1) pm c' ctv), (c', oc), (q6, o6)]) := by
    intro p hp
    (repeat (rcases List.mem_cons.mp hp with rfl | hp; (focus exact N _ (by k_mem))))
    exact nomatch hp
  refine start_core (bb := (q6, o6)) (dv := .ref f) (sil := sil) (t1 := t1) (t2 := t2) (t3 := t3) (ts := ts) (nn := nn) (nw := nw) cx ⟨⟨hord.1, hord.2.1, Nat.lt_trans hord.2.2.1 (Nat.lt_trans hord.2.2.2.1 hord.2.2.2.2.1), hord.2.2.2.2.2.1, hord.2.2.2.2.2.2.1, Nat.lt_trans hord.2.2.2.2.2.2.2.1 hord.2.2.2.2.2.2.2.2.1⟩, hoT, hoC, lo, hsz, hI, hn⟩ hr F N2 ?_ hnext hret
  refine ⟨[], [], P, o, [], [], np0, [], nd0, [], nT0, oK, vK, _, ⟨rfl, m1, m2, m3, m4, m5, hoK, hd1, .nil, .nil, .nil, ?_, Nat.zero_le _, Good.nil hsz.1, .inr ⟨hsil, f, qual, pm, c', ctv, oc, vs, tq, rfl, .head _, .tail _ (.head _), hoc, hvs⟩, ?_, ?_, .tail _ (.tail _ (.head _))⟩⟩
  · cases sil <;> exact .nil
  · intro p hp
    rcases List.mem_cons.mp hp with rfl | hp
    · refine ⟨?_, ?_, ?_, ?_⟩ <;> (refine neN ?_; dsimp only; omega)
    rcases List.mem_cons.mp hp with rfl | hp
    · refine ⟨?_, ?_, ?_, ?_⟩ <;> (refine neN ?_; dsimp only; omega)
    rcases List.mem_cons.mp hp with rfl | hp
    · refine ⟨?_, ?_, ?_, ?_⟩ <;> (refine neN ?_; dsimp only; omega)
    exact nomatch hp
  · refine ⟨?_, ?_, ?_, ?_⟩ <;> omega
end
end Ruc
end
open PySem PySem.W PySem.Calls PySem.Spec PyProof.Rows
set_option maxHeartbeats 8000000
local macro_rules | `(tactic| walk_at "last pyIter ref") => `(tactic| ((with_reducible show wpAny _ _ (pyIter (Value.ref _)) (fun it s₂ => LoopAtV _ _ _ _ _ _ _ _ _ it s₂) _ _); (refine Ruc.stop_here ?_)))
local macro_rules | `(tactic| walk_at "subscriptTail BinOp Call Add List Slice ref ref") => `(tactic| (k_here; k_dflt (refine kba_turn (value' := PySem.Expr.Name (PySem.Str.ofString "xs") ⟨0, 0, 0, 0⟩) (fun _ => rfl) ?_)))
theorem Ruc.len38 (k : Nat) (w : List Int) : (List.take k (List.take 34 w ++ [0, 0, 0, 0])).length ≤ 38 := by
  rw [List.length_take, List.length_append, List.length_take]
  simp only [List.length_cons, List.length_nil]
  omega
theorem Ruc.sz4 (a : Int) : 0 ≤ a.fmod 5 ∧ a.fmod 5 ≤ 4 := ⟨(Ruc.fmod_rng a (by decide)).1, Int.le_of_lt_add_one (Ruc.fmod_rng a (b := 5) (by decide)).2⟩
theorem Ruc.room1 : callerA.depth + 1 + 10 < recursionLimit := by rw [depth_caller]; decide
theorem Ruc.room2 : callerA.units + 3 + 10 * 10 < cLine := by rw [units_caller]; decide
theorem Ruc.post_true (ns : List Int) : PySem.Challenge.rw_ew0039_01.row.claim.post [ofPy (PyData.list (List.map PyData.int ns))] (WData.bool true) [ofPy (PyData.list (List.map PyData.int ns))] = true := by wrow_post
theorem PySem.Challenge.cw_ew0039_01_holds : PySem.Challenge.rw_ew0039_01.Holds := by
  exact Ruc.hd (by
    w_strict (k_go0; (all_goals try k_fold); k_steps)
    · (try (show wpAny _ _ _ _ _ _))
      rename Below callerA _ [] _ => kK
      rename IsRange _ _ _ _ _ _ _ _ => kR
      rename Fr _ _ _ _ => kF
      rename News _ _ _ _ => kN
      rename Top topProg _ _ _ _ _ => kT
      rename Frag.In _ _ => kX
      rename (_ : Int) = 3 => ha
      refine Ruc.start_s ⟨kK, kX, kT, rfl, rfl, ?c1, ?c2⟩ kR kF kN rfl rfl rfl rfl rfl (beq_iff_eq.mpr ha) (by assumption) (by assumption) (by assumption) (by assumption) (by assumption) (by assumption) ?hn ?hsz ?hord (fun s' h => h) ?hret
      case c1 => exact Ruc.room1
      case c2 => exact Ruc.room2
      case hn => exact Ruc.len38 _ _
      case hsz => exact Ruc.sz4 _
      case hord => (repeat' refine And.intro ?_ ?_) <;> omega
      case hret =>
        intro h' tk' m' news' kF2 kN2 kB2
        refine And.intro ?_ (And.intro (GrownAt.of kN2 kB2) True.intro)
        show GoodW _ _ _ _ _ (.ok (.ret (.bool true))) _
        refine goodW_bool (by exact kF2) (by assumption) (raisesW_false ?_) ?_
        · wrow_none_raised
        · exact Ruc.post_true _
    · (try (show wpAny _ _ _ _ _ _))
      rename Below callerA _ [] _ => kK
      rename IsRange _ _ _ _ _ _ _ _ => kR
      rename Fr _ _ _ _ => kF
      rename News _ _ _ _ => kN
      rename Top topProg _ _ _ _ _ => kT
      rename Frag.In _ _ => kX
      first | (rename (_ : Int) ≠ 3 => ha) | (rename ¬ ((_ : Int) = 3) => ha)
      refine Ruc.start_n ⟨kK, kX, kT, rfl, rfl, ?c1, ?c2⟩ kR kF kN rfl rfl rfl rfl rfl (beq_eq_false_iff_ne.mpr ha) (by assumption) (by assumption) (by assumption) (by assumption) (by assumption) (by assumption) (by assumption) (by assumption) ?hn ?hsz ?hord (fun s' h => h) ?hret
      case c1 => exact Ruc.room1
      case c2 => exact Ruc.room2
      case hn => exact Ruc.len38 _ _
      case hsz => exact Ruc.sz4 _
      case hord => (repeat' refine And.intro ?_ ?_) <;> omega
      case hret =>
        intro h' tk' m' news' kF2 kN2 kB2
        refine And.intro ?_ (And.intro (GrownAt.of kN2 kB2) True.intro)
        show GoodW _ _ _ _ _ (.ok (.ret (.bool true))) _
        refine goodW_bool (by exact kF2) (by assumption) (raisesW_false ?_) ?_
        · wrow_none_raised
        · exact Ruc.post_true _)
