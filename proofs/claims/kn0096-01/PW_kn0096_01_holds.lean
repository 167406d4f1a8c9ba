import PyProof.Rows.All
import Wide.All
import OpenK.AllK
import Wide.FinOn
import PySem.Challenge.RW_kn0096_01
set_option Elab.async false
set_option maxRecDepth 100000
set_option rowWalk.seconds 1700
namespace Mine
open PySem PySem.W PyProof.Rows
set_option maxRecDepth 100000
set_option maxHeartbeats 8000000
open_top hd for PySem.Challenge.rw_kn0096_01
end Mine
namespace Mine
open PySem PySem.W PyProof.Rows PySem.Calls
set_option maxRecDepth 100000

theorem call_base {prog : Program} {w : World} {A : Around} {base : Heap} {outer : List Env} {s : Shared} {R : Result → Shared → Prop} {name qual : Str} {params : Arguments} {body : List Stmt} {scope : Scope}
    {dV kV doc pm cdv ct : Value} {an : Option Addr} {fo : Obj} {f : Addr} {args : Args} {binds : List (Str × Value)}
    (_B : Below A base outer s.heap) (hlim : s.heap.NoLimit)
    (ho : s.heap.get? f = some fo) (hd : fo.data = .func (fnOf name qual params body scope dV kV doc pm an cdv ct)) (hcd : s.heap.CodeRec cdv qual) (hroom : A.depth < recursionLimit)
    (hbind : BindsTo s (fnOf name qual params body scope dV kV doc pm an cdv ct) args binds) (hloc : ∀ y ∈ binds, scope.names.lookup y.1 = some .local)
    (h : ∀ h₁, Fr s.heap s.heap.objs.size h₁ (fun y => binds.reverse.lookup y) →
      wpAny (model prog w) (A.deeper (envOf qual scope s.heap.objs.size f cdv)) (execs body (envOf qual scope s.heap.objs.size f cdv))
        (fun fl s' => R (.ok (.ret (match fl with | .ret v => v | _ => .none))) s')
        (fun e s' => wpAny (model prog w) (A.deeper (envOf qual scope s.heap.objs.size f cdv)) (leaving (envOf qual scope s.heap.objs.size f cdv) e) (fun _ s'' => R (.error e) s'') (fun e' s'' => R (.error e') s'') s')
        { s with heap := h₁, toks := s.toks + binds.length })
    (hcell : ∀ x ∈ scope.names, x.2 ≠ .cell) (hco : scope.isCoroutine = false := by rfl) (hgen : scope.isGenerator = false := by rfl) (hk : scope.kind = .function := by rfl) : codeAny (model prog w) A (.call (.ref f) args) R s := by
  refine codeAny_call_def (fd := fnOf name qual params body scope dV kV doc pm an cdv ct) (body := body) (binds := binds) hroom ho hd hlim hcd rfl hbind hcell hloc (fun h₁ hns hk₁ => ?_) hco hgen hk
  exact h h₁ ⟨hns, hk₁, Nat.le_refl _⟩
end Mine
namespace Mine
open PySem PySem.W PyProof.Rows PySem.Calls
set_option maxRecDepth 100000
section
variable {prog : Program} {w : World} {A : Around} {E : Value → Shared → Prop} {s : Shared} {env : Env}
/-- raise NotImplementedError, the bare class: the exception made has no words -/
theorem raise_nie {x : Str} {np pos : Pos} {Q : Flow → Shared → Prop} (hh : A.handled = none)
    (hx : wpAny (model prog w) A (eval (.Name x np) env) (fun v s₁ => v = .type "NotImplementedError" ∧ s₁ = s) E s)
    (h : ∀ h' e, Heap.MadeExc s.heap h' e "NotImplementedError" [] → E (.ref e) { s with heap := h' }) :
    wpAny (model prog w) A (exec (.Raise (some (.Name x np)) none pos) env) Q E s := by
  have hself : isSubtype (.type "NotImplementedError") (.type "NotImplementedError") = pure true := PySem.F.excBase_NotImplementedError.sub
  have hc := excClass_NotImplementedError
  show wpAny (model prog w) A (do standAt pos; raiseStmt env (some (do let v ← eval (.Name x np) env; standAt pos; pure v)) none) Q E s
  unfold raiseStmt
  refine wpAny_bind (wpAny_standAt (wpAny_bind (wpAny_bind (wpAny_mono hx (fun v s₁ h₁ => wpAny_bind (wpAny_standAt (wpAny_pure ?_))) fun _ _ e => e))))
  obtain ⟨rfl, hs⟩ := h₁
  subst s₁
  refine wpAny_bind (wpAny_pure (wpAny_bind (wpAny_holding ?_)))
  unfold excFromValue isExcClass
  refine wpAny_bind (wpAny_bind (wpAny_pure ?_))
  simp only [if_true]
  rw [hc.base]
  refine wpAny_pure ?_
  simp only [if_true]
  refine wpAny_bind (wpAny_call_exc PySem.F.excBase_NotImplementedError.toExcCallFacts fun h' e hn => ?_)
  obtain ⟨t, he, _⟩ := hn.there
  have hT : ({ s with heap := h' } : Shared).TypeIs (.ref e) "NotImplementedError" := ⟨_, he, rfl⟩
  refine wpAny_bind (wpAny_isInstance hT hc.base ?_)
  simp only [Bool.not_true, Bool.false_eq_true, if_false]
  refine wpAny_pure (wpAny_bind (m := isType (.type "NotImplementedError")) (wpAny_pure ?_))
  simp only [if_true]
  refine wpAny_bind (wpAny_holding ?_)
  unfold raisedFor
  simp only [Bool.false_eq_true, if_false]
  refine wpAny_bind (wpAny_typeOf hT (wpAny_bind (call_issubclass (issubclass_self hc hself) ?_)))
  dsimp only [wants]
  refine wpAny_bind (wpAny_truthy_bool ?_)
  simp only [if_true]
  refine wpAny_pure ?_
  unfold setFlight raiseNew
  refine wpAny_bind (wpAny_bind (wpAny_field (i := 1) (x := Value.none) he rfl rfl ?_))
  rw [if_neg (by decide)]
  refine wpAny_pure (wpAny_bind (wpAny_handled ?_))
  rw [hh]
  first
    | exact wpAny_throw (h h' e hn)
    | exact wpAny_bind (wpAny_pure (wpAny_throw (h h' e hn)))
end
end Mine
namespace Mine
open PySem PySem.W PyProof.Rows PySem.Calls
set_option maxRecDepth 100000
theorem warm : PySem.Challenge.rw_kn0096_01 = PySem.Challenge.rw_kn0096_01 ∧ hd.heap_39 = hd.heap_39 := by
  k_fill
  exact ⟨rfl, rfl⟩
abbrev AR (d : Nat) (outer : List Env) (gs : Option (List Code)) (u : Nat) : Around := ⟨none, d, some outer, gs, u⟩
section
variable {prog : Program} {w : World} {d u : Nat} {gs : Option (List Code)} {base : Heap} {outer : List Env} {s : Shared} {mean : ExcName → Option Value} {mg mb : Str → Option Value}
theorem inst_up {h h' : Heap} {x dx C : Addr} {ep : Nat} (h1 : h.get? x = some (instObj C dx)) (h2 : h.get? dx = some (dictOf [] ep)) (k : ∀ b o, h.get? b = some o → h'.get? b = some o) : InstAt h' x (instObj C dx) C (some (dictOf [] ep)) :=
  ⟨k _ _ h1, rfl, rfl, k _ _ h2⟩
local macro_rules | `(tactic| k_inst) => `(tactic| exact inst_up (by assumption) (by assumption) (Fr.keep (by k_asm)))
local macro_rules | `(tactic| k_room) => `(tactic| (simp only [depth_under_make, depth_under_kw, depth_in1, depth_deeper, depth_caller]; omega))
local macro_rules | `(tactic| k_units) => `(tactic| (simp only [units_in1, units_deeper, units_caller]; omega))
local macro_rules | `(tactic| walk_at "exec Raise some none") => `(tactic| (k_here; (with_reducible rename Fr _ _ _ _ => kF); k_dflt (refine' raise_nie ?hh ?hx ?_; (case hh => rfl); (case hx => (refine' name_B kF ?k1 ?k2 ?k3 ?k4 ?k5 ?_; (case k1 => k_asm); (case k2 => k_asm); (case k3 => k_is); (case k4 => boot_by_name); (case k5 => decide); exact ⟨rfl, rfl⟩)); intro h' e' hM'; replace hM' := Heap.MadeExc.of hM'; try dsimp only)))
local macro_rules | `(tactic| walk_at "leaving ref") => `(tactic| (k_here; (refine' leave_raiseS ?k1 ?k0 ?k2 ?k3 ?_; (case k0 => assumption); (case k1 => assumption); (case k2 => assumption); (case k3 => k_asm); k_whole; intro h' t' RS' R' U'; (try dsimp only at RS' R' U' ⊢))))
local macro_rules | `(tactic| walk_at "noteFrame ref") => `(tactic| (k_here; k_dflt (refine' caught_SB (T' := "NotImplementedError") ?R ?F ?B ?U ?XB ?TB ?D ?T0 ?ex PyProof.Rows.Boot.«NotImplementedError» ?hn PySem.F.isExc_NotImplementedError PySem.F.notTuple_NotImplementedError ?hs ?_; (case R => assumption); (case F => assumption); (case B => assumption); (case U => assumption); (case XB => assumption); (case TB => assumption); (case D => assumption); (case T0 => exact KtsTurn.refl); (case ex => k_is); (case hn => decide); (case hs => rw [isSubtype_type]; kernel_rfl); k_whole); intro h' g' n₂ tk' T' F' N₂ G' N' K' X' P' D'; clear N'))
/-- all that stood stands, but that the frames in fs may bear other slots -/
def KeepsT (fs : List Addr) (s s' : Shared) : Prop := ∃ h tk, s' = { s with heap := h, toks := tk } ∧ (∀ b o, s.heap.get? b = some o → b ∉ fs → h.get? b = some o) ∧ ∀ b o, s.heap.get? b = some o → b ∈ fs → ∃ sl, h.get? b = some { o with slots := sl }
theorem keepsT_of {fs : List Addr} {s : Shared} {g h : Heap} {tk : Nat} (T : KtsTurn fs s.heap g) (k : ∀ b o, g.get? b = some o → h.get? b = some o) : KeepsT fs s { s with heap := h, toks := tk } :=
  ⟨h, tk, rfl, fun b o e m => k b o (T.other b o e m), fun b o e m => let ⟨sl, e'⟩ := T.frame b o e m; ⟨sl, k _ _ e'⟩⟩
theorem refused (B : Below (AR d outer gs u) base outer s.heap) (XB : (hd.heap_39 w.params).In base) (TB : Top hd.view_39 (looseW hd.view_39 [Str.ofString "NodeFilter"]) mean mg mb base)
   (D : KtsDicts (outer.filterMap (·.frame)) s.heap)
   (hroom : d + 10 < recursionLimit) (hu : u + 100 < cLine) {pv : Addr} {node : Value} {dx ep}
   (hp : s.heap.get? pv = some (instObj 31 dx)) (hpd : s.heap.get? dx = some (dictOf [] ep)) :
   codeAny (model prog w) (AR d outer gs u) (.call (.ref 42) ⟨[.ref pv, node], []⟩) (fun r s' => r = .ok (.ret (.bool true)) ∧ KeepsT (outer.filterMap (·.frame)) s s') s := by
  w_top off
  have X := XB.keeps B.stays
  have T := TB.keeps B.stays
  refine call_base B T.nolimit (X 42 _ (by k_is)) rfl (codeRec_of X (by k_is)) (by show d < _; omega) (BindsTo.of_eq rfl) (locs rfl) (fun h₁ F => ?_) (by decide)
  have N : News s.heap s.heap.objs.size h₁ [] := News.nil
  try k_fold
  k_steps
  rename Got _ _ _ _ _ => G9
  rename News _ _ _ _ => N9
  rename Fr _ _ _ _ => F9
  obtain ⟨oe, ot, ws, nt, g1, g2, g3, g4, g5, g6, g7⟩ := G9
  refine eq_dataS (da := .tuple []) (db := .tuple []) (.tuple (N9 _ (List.mem_cons_of_mem _ g2)).1 g6 g7 .nil) (.tuple (N9 _ List.mem_cons_self).1 rfl rfl .nil) rfl rfl ?_ ?_
  · show u + 3 + 64 < _; omega
  k_steps
  all_goals exact keepsT_of (by assumption) (Fr.keep (by assumption))
end
end Mine
namespace Mine
open PySem PySem.W PyProof.Rows PySem.Calls
set_option maxRecDepth 100000
structure Node where
  kind : Int
  deep : Int
  ans : Int
def NodeAt (h : Heap) (v : Value) (n : Node) : Prop := ∃ b t1 t2 t3, v = .ref b ∧ h.IsList b #[.int n.kind t1, .int n.deep t2, .int n.ans t3]
inductive NodesAt (h : Heap) : List Value → List Node → Prop
  | nil : NodesAt h [] []
  | cons {v vs n ns} : NodeAt h v n → NodesAt h vs ns → NodesAt h (v :: vs) (n :: ns)
def RowAt (h : Heap) (a : Addr) (ns : List Node) : Prop := ∃ vs : List Value, h.IsList a vs.toArray ∧ NodesAt h vs ns
def shownInts : List Int := [1, 2, 4, 8, 16, 32, 64, 128, 256, 512, 1024, 2048]
def ShownAt (h : Heap) (a : Addr) : Prop := ∃ vs : List Value, h.IsList a vs.toArray ∧ IntsAre vs shownInts
theorem NodesAt.length {h : Heap} : ∀ {vs : List Value} {ns : List Node}, NodesAt h vs ns → vs.length = ns.length
  | _, _, .nil => rfl
  | _, _, .cons _ r => congrArg (· + 1) r.length
theorem NodesAt.get {h : Heap} : ∀ {vs : List Value} {ns : List Node}, NodesAt h vs ns → ∀ {i : Nat} {n : Node}, ns[i]? = some n → ∃ v, vs[i]? = some v ∧ NodeAt h v n
  | _, _, .nil, _, _, e => by simp at e
  | _, _, .cons a r, 0, _, e => ⟨_, rfl, by cases e; exact a⟩
  | _, _, .cons a r, i + 1, _, e => r.get (i := i) (by simpa using e)
def Hold (P : Prop) : Prop := P
theorem hold {P : Prop} (h : Hold P) : P := h
/-- a kind is shown by a mask -/
def hit (mk : Int) (n : Node) : Bool := Builtin.bitAnd mk (shownInts.getD (n.kind - 1).toNat 0) != 0
theorem item_at {prog : Program} {w : World} {A : Around} {E : Value → Shared → Prop} {s : Shared} {value slice : PySem.Expr} {l : Addr} {items : Array Value} {k : Int} {u : Tok} {x : Value} {Q : Value → Shared → Prop}
    (hl : s.heap.IsList l items) (h0 : 0 ≤ k) (hhi : k < 2 ^ 63) (hx : items[k.toNat]? = some x) (h : Q x s)
    (hs : subscripted slice false (.ref l) (.int k u) = operate [.ref l, .int k u] (getItem (.ref l) (.int k u)) := by with_unfolding_all rfl) :
    wpAny (model prog w) A (subscriptTail value slice (.ref l) (.int k u)) Q E s :=
  tail_any hl.typeIs slot_list_getitem.lookup (wpAny_getItem_list hl h0 hhi hx h) hs
theorem ns_slots {h h' : Heap} {a : Addr} {m : Str → Option Value} (x : h.Ns a m) (k : ∀ o, h.get? a = some o → ∃ sl, h'.get? a = some { o with slots := sl }) : h'.Ns a m := by
  obtain ⟨o, es, ep, ho, hd, hs, hf⟩ := x
  obtain ⟨sl, e⟩ := k o ho
  exact ⟨_, es, ep, e, hd, hs, hf⟩
theorem dicts_push {fs : List Addr} {h₀ h : Heap} {L : Addr} {m : Str → Option Value} (D : KtsDicts fs h₀) (F : Fr h₀ L h m) : KtsDicts (L :: fs) h := fun b hb => by
  rcases List.mem_cons.mp hb with rfl | hb
  · obtain ⟨o, es, ep, ho, hd, _⟩ := F.ns
    exact ⟨o, es, ep, ho, hd⟩
  · obtain ⟨o, es, n, ho, hd⟩ := D b hb
    exact ⟨o, es, n, F.keep _ _ ho, hd⟩
theorem keepsT_in {fs : List Addr} {h₀ h : Heap} {L : Addr} {m : Str → Option Value} {s s₁ s₂ : Shared} (F : Fr h₀ L h m) (e0 : h₀ = s.heap) (e1 : s₁ = { s with heap := h, toks := s₁.toks }) (hn : h₀.get? L = none) (k : KeepsT (L :: fs) s₁ s₂) : KeepsT fs s s₂ := by
  obtain ⟨h', tk, e2, k1, k2⟩ := k
  have e3 : s₁.heap = h := by rw [e1]
  refine ⟨h', tk, by rw [e2, e1], fun b o e mb => k1 b o (by rw [e3]; exact F.keep _ _ (by rw [e0]; exact e)) ?_, fun b o e mb => k2 b o (by rw [e3]; exact F.keep _ _ (by rw [e0]; exact e)) (List.mem_cons_of_mem _ mb)⟩
  intro hm
  rcases List.mem_cons.mp hm with rfl | hm
  · rw [e0, e] at hn; cases hn
  · exact mb hm
theorem fr_self {h₀ h : Heap} {L : Addr} {m : Str → Option Value} (F : Fr h₀ L h m) : h₀.get? L = none := Heap.get?_none_of_le F.above
/-- the first place of a row that a test takes, or the row's end -/
def FirstIs (p : Node → Bool) (ns : List Node) (i : Nat) : Prop := i ≤ ns.length ∧ (∀ j, j < i → ∀ n, ns[j]? = some n → p n = false) ∧ ∀ n, ns[i]? = some n → p n = true
theorem range_small {n : Nat} (h : n ≤ 1000) : Builtin.Range.small 0 n 1 = true := by
  unfold Builtin.Range.small Builtin.Range.rangeFitsLong
  simp only [Bool.and_eq_true, decide_eq_true_eq]
  rw [rangeSize_nat]
  refine ⟨⟨by omega, by omega⟩, ?_⟩
  simp only [Bool.or_eq_true]
  right
  simp
  omega
theorem warm3 : PySem.Challenge.rw_kn0096_01 = PySem.Challenge.rw_kn0096_01 ∧ hd.heap_39 = hd.heap_39 := by
  k_fill
  exact ⟨rfl, rfl⟩
section
variable {prog : Program} {w : World} {d u : Nat} {gs : Option (List Code)} {base : Heap} {outer : List Env} {s : Shared} {mean : ExcName → Option Value} {mg mb : Str → Option Value}
local macro_rules | `(tactic| k_inst) => `(tactic| exact inst_up (by assumption) (by assumption) (Fr.keep (by k_asm)))
local macro_rules | `(tactic| k_room) => `(tactic| (simp only [depth_under_make, depth_under_kw, depth_in1, depth_deeper, depth_caller]; omega))
local macro_rules | `(tactic| k_units) => `(tactic| (simp only [units_in1, units_deeper, units_caller]; omega))
local macro_rules | `(tactic| walk_at "pyIter ref") => `(tactic| refine hold ?_)
local macro_rules | `(tactic| walk_at "subscriptTail") => `(tactic| refine hold ?_)
local macro_rules | `(tactic| walk_at "call builtin:len") => `(tactic| refine hold ?_)
local macro_rules | `(tactic| walk_at "call ref") => `(tactic| refine hold ?_)
theorem first_spec (B : Below (AR d outer gs u) base outer s.heap) (XB : (hd.heap_39 w.params).In base) (TB : Top hd.view_39 (looseW hd.view_39 [Str.ofString "NodeFilter"]) mean mg mb base)
   (D : KtsDicts (outer.filterMap (·.frame)) s.heap)
   (hroom : d + 20 < recursionLimit) (hu : u + 200 < cLine) {pv ra sa : Addr} {dx ep} {mk : Int} {tm : Tok} {ns : List Node}
   (hp : s.heap.get? pv = some (instObj 31 dx)) (hpd : s.heap.get? dx = some (dictOf [] ep)) (hr : RowAt s.heap ra ns) (hs : ShownAt s.heap sa) (hk : ∀ n ∈ ns, 1 ≤ n.kind ∧ n.kind ≤ 12) (hlen : ns.length ≤ 50) :
   codeAny (model prog w) (AR d outer gs u) (.call (.ref 49) ⟨[.ref pv, .ref ra, .int mk tm, .ref sa], []⟩) (fun r s' => (∃ (i : Nat) (t : Tok), r = .ok (.ret (.int i t)) ∧ FirstIs (hit mk) ns i) ∧ KeepsT (outer.filterMap (·.frame)) s s') s := by
  w_top off
  have X := XB.keeps B.stays
  have T := TB.keeps B.stays
  obtain ⟨rvs, hrl, hrn⟩ := hr
  obtain ⟨svs, hsl, hsi⟩ := hs
  refine call_base B T.nolimit (X 49 _ (by k_is)) rfl (codeRec_of X (by k_is)) (by show d < _; omega) (BindsTo.of_eq rfl) (locs rfl) (fun h₁ F => ?_) (by decide)
  have N : News s.heap s.heap.objs.size h₁ [] := News.nil
  replace F : Fr s.heap s.heap.objs.size h₁ (fun y => List.lookup y [(Str.ofString "shown", .ref sa), (Str.ofString "mask", .int mk tm), (Str.ofString "row", .ref ra), (Str.ofString "plain", .ref pv)]) := F
  try k_fold
  k_steps
  have hlr : rvs.toArray.size = ns.length := by simpa using hrn.length
  rename Fr _ _ _ _ => F1
  unfold Hold
  refine len_list (hrl.at fun o e => F1.keep _ o e) (by rw [hlr]; omega) ?_
  rw [hlr]
  k_steps
  unfold Hold
  rename IsRange _ _ _ _ _ _ _ _ => hR
  rename ∀ b o, _ => hK
  rename Fr _ _ _ _ => F2
  rename News _ _ _ _ => N2
  clear hK
  refine kd_range (news := []) (fun _ : Unit => []) [] (fun _ => []) (fun _ _ => True) [] (fun pre _ => ∀ j, j < pre.length → ∀ n, ns[j]? = some n → hit mk n = false) [] () rfl hR (range_small (by omega)) (rangeSize_nat _ _) F2 N2 (fun _ h => (nomatch h)) (fun _ => rfl) trivial (fun _ h => (nomatch h)) (fun j hj => (nomatch hj)) ?turn ?done
  case turn =>
    intro _ tl pre k t u' h' tk' own hk0 hkn hsep hoff _ hP F3 N3
    try k_fold
    k_steps
    unfold Hold
    have hkl : pre.length < ns.length := by omega
    have hn : ns[pre.length]? = some (ns[pre.length]'hkl) := List.getElem?_eq_getElem hkl
    generalize ns[pre.length]'hkl = n at hn
    obtain ⟨v, hv, b, t1, t2, t3, rfl, hb⟩ := hrn.get hn
    obtain ⟨hk1, hk2⟩ := hk n (List.mem_of_getElem? hn)
    rename Fr _ _ _ _ => F4
    refine item_at (hrl.at fun o e => F4.keep _ o e) (by omega) (by omega) (x := .ref b) (by rw [show k.toNat = pre.length by omega]; simpa using hv) ?_
    k_steps
    unfold Hold
    refine item_at (hb.at fun o e => F4.keep _ o e) (by decide) (by decide) (x := .int n.kind t1) rfl ?_
    k_steps
    unfold Hold
    have hsh : shownInts[(n.kind - 1).toNat]? = some (shownInts.getD (n.kind - 1).toNat 0) := by
      rw [List.getD_eq_getElem?_getD, List.getElem?_eq_getElem (by show _ < 12; omega)]; rfl
    obtain ⟨ts, hts⟩ := hsi.get _ _ hsh
    refine item_at (hsl.at fun o e => F4.keep _ o e) (by omega) (by omega) (x := .int (shownInts.getD (n.kind - 1).toNat 0) ts) (by simpa using hts) ?_
    k_steps
    · unfold Hold
      refine item_at (hrl.at fun o e => F4.keep _ o e) (by omega) (by omega) (x := .ref b) (by rw [show k.toNat = pre.length by omega]; simpa using hv) ?_
      k_steps
      unfold Hold
      refine wpAny_call (codeAny_mono (refused (d := d + 1) (u := u + 3) (B.push F4) XB TB (dicts_push D F4) (by omega) (by omega) (F4.keep _ _ hp) (F4.keep _ _ hpd)) fun r s' hrs => ?_)
      obtain ⟨rfl, hT⟩ := hrs
      dsimp only
      have hT2 := hT
      obtain ⟨h5, tk5, rfl, k1, k2⟩ := hT2
      have hns := ns_slots F4.ns fun o e => k2 _ o e List.mem_cons_self
      refine wpAny_truthy_bool ?_
      simp only [if_true]
      refine wpAny_Name (wpAny_loadName_local rfl rfl hns (v := .int k t) rfl ?_) (by decide)
      have fst : FirstIs (hit mk) ns pre.length := ⟨by omega, hP, fun n' hn' => by
        rw [hn] at hn'
        cases hn'
        rename _ ≠ (0 : Int) => hne
        simpa [hit] using hne⟩
      have e9 : k = (pre.length : Int) := by omega
      subst e9
      have fin : (∃ (i : Nat) (t' : Tok), (Except.ok (Flow.ret (.int (pre.length : Int) t)) : Result) = .ok (.ret (.int i t')) ∧ FirstIs (hit mk) ns i) ∧ KeepsT (outer.filterMap (·.frame)) s _ := ⟨⟨pre.length, t, rfl, fst⟩, keepsT_in F4 rfl rfl (fr_self F4) hT⟩
      exact fin
    · rename _ = (0 : Int) => hne
      refine kd_end () [] hsep F4 N3 (fun p hp => ?_) (fun p hp => ?_) rfl (fun q hq => (nomatch hq)) (fun q hq => (nomatch hq)) (fun q hq => (nomatch hq)) (fun z h1 _ _ => ?_) trivial (fun j hj n' hn' => ?_)
      · simp only [List.nil_append] at hp ⊢
        exact List.mem_append_left _ hp
      · simp only [List.nil_append]
        exact List.mem_append_right _ hp
      · rw [if_neg h1]
        rfl
      · by_cases hj' : j < pre.length
        · exact hP j hj' n' hn'
        · have e9 : j = pre.length := by simp at hj; omega
          rw [e9, hn] at hn'
          cases hn'
          simpa [hit] using hne
  case done =>
    intro _ tl u' h' tk' hoff _ hP F3 N3
    k_steps
    unfold Hold
    rename Fr _ _ _ _ => F4
    refine len_list (hrl.at fun o e => F4.keep _ o e) (by rw [hlr]; omega) ?_
    have e9 : (rangeKs 0 (↑ns.length - 0 : Int).toNat).length = ns.length := by rw [rangeKs_length]; omega
    refine ⟨⟨ns.length, _, by rw [hlr], Nat.le_refl _, fun j hj => hP j (by omega), fun n hn => ?_⟩, ⟨_, _, rfl, fun b o e _ => F4.keep b o e, fun b o e _ => ⟨o.slots, F4.keep b o e⟩⟩⟩
    rw [List.getElem?_eq_none (Nat.le_refl _)] at hn
    cases hn
end
end Mine
namespace Mine
open PySem PySem.W PyProof.Rows PySem.Calls
set_option maxRecDepth 100000
set_option linter.all false
set_option linter.unusedVariables false
set_option linter.unusedSimpArgs false
/-- what a walk tells from place i on, shut below a depth -/
def toldGo (p : Node → Bool) : List Node → Nat → Int → List Int
  | [], _, _ => []
  | n :: r, i, sh => if sh < n.deep then toldGo p r (i + 1) sh else if p n = false then toldGo p r (i + 1) 5 else if n.ans = 1 then (i : Int) :: toldGo p r (i + 1) 5 else if n.ans = 2 then toldGo p r (i + 1) n.deep else toldGo p r (i + 1) 5
theorem ints_snoc {vs : List Value} {ns : List Int} (h : IntsAre vs ns) {k : Int} {t : Tok} : IntsAre (vs ++ [.int k t]) (ns ++ [k]) := by
  induction h with
  | nil => exact .cons _ _ .nil
  | cons n t _ ih => exact .cons n t ih
theorem warm4 : PySem.Challenge.rw_kn0096_01 = PySem.Challenge.rw_kn0096_01 ∧ hd.heap_39 = hd.heap_39 := by
  k_fill
  exact ⟨rfl, rfl⟩
/-- the walk's state: the told list's values, its ints, its epoch, the shut depth and its token -/
abbrev TS := List Value × List Int × Nat × Int × Tok
/-- a new list of ints came back, all else stands -/
def ListPost (s : Shared) (is : List Int) (r : Result) (s' : Shared) : Prop := ∃ D vs n, r = .ok (.ret (.ref D)) ∧ s'.heap.get? D = some (listOf (vs : List Value).toArray n) ∧ s.heap.get? D = none ∧ IntsAre vs is ∧ Keeps s s'
section
variable {prog : Program} {w : World} {d u : Nat} {gs : Option (List Code)} {base : Heap} {outer : List Env} {s : Shared} {mean : ExcName → Option Value} {mg mb : Str → Option Value}
local macro_rules | `(tactic| k_room) => `(tactic| (simp only [depth_under_make, depth_under_kw, depth_in1, depth_deeper, depth_caller]; omega))
local macro_rules | `(tactic| k_units) => `(tactic| (simp only [units_in1, units_deeper, units_caller]; omega))
local macro_rules | `(tactic| walk_at "pyIter ref") => `(tactic| refine hold ?_)
local macro_rules | `(tactic| walk_at "subscriptTail") => `(tactic| refine hold ?_)
local macro_rules | `(tactic| walk_at "call builtin:len") => `(tactic| refine hold ?_)
set_option maxHeartbeats 8000000 in
theorem told_spec (B : Below (AR d outer gs u) base outer s.heap) (XB : (hd.heap_39 w.params).In base) (TB : Top hd.view_39 (looseW hd.view_39 [Str.ofString "NodeFilter"]) mean mg mb base)
   (hroom : d + 20 < recursionLimit) {ra sa : Addr} {mk : Int} {tm : Tok} {ns : List Node}
   (hr : RowAt s.heap ra ns) (hs : ShownAt s.heap sa) (hk : ∀ n ∈ ns, 1 ≤ n.kind ∧ n.kind ≤ 12) (ha : ∀ n ∈ ns, 1 ≤ n.ans ∧ n.ans ≤ 3) (hlen : ns.length ≤ 50) :
   codeAny (model prog w) (AR d outer gs u) (.call (.ref 56) ⟨[.ref ra, .int mk tm, .ref sa], []⟩)
     (ListPost s (toldGo (hit mk) ns 0 5)) s := by
  w_top off
  have X := XB.keeps B.stays
  have T := TB.keeps B.stays
  obtain ⟨rvs, hrl, hrn⟩ := hr
  obtain ⟨svs, hsl, hsi⟩ := hs
  refine call_base B T.nolimit (X 56 _ (by k_is)) rfl (codeRec_of X (by k_is)) (by show d < _; omega) (BindsTo.of_eq rfl) (locs rfl) (fun h₁ F => ?_) (by decide)
  have N : News s.heap s.heap.objs.size h₁ [] := News.nil
  replace F : Fr s.heap s.heap.objs.size h₁ (fun y => List.lookup y [(Str.ofString "shown", .ref sa), (Str.ofString "mask", .int mk tm), (Str.ofString "row", .ref ra)]) := F
  try k_fold
  k_steps
  have hlr : rvs.toArray.size = ns.length := by simpa using hrn.length
  rename Fr _ _ _ _ => F1
  unfold Hold
  refine len_list (hrl.at fun o e => F1.keep _ o e) (by rw [hlr]; omega) ?_
  rw [hlr]
  k_steps
  unfold Hold
  rename IsRange _ _ _ _ _ _ _ _ => hR
  rename ∀ b o, _ => hK
  rename Fr _ _ _ _ => F2
  rename News _ _ _ _ => N2
  have clean : ∃ tA t5, News s.heap s.heap.objs.size _ [(tA, listOf (([] : List Value).toArray) 0)] ∧ Fr s.heap s.heap.objs.size _ (fun y => if y = Str.ofString "told" then some (.ref tA) else if y = Str.ofString "shut" then some (.int 5 t5) else List.lookup y [(Str.ofString "shown", .ref sa), (Str.ofString "mask", .int mk tm), (Str.ofString "row", .ref ra)]) ∧
    (fun y => if y = Str.ofString "told" then some (.ref tA) else if y = Str.ofString "shut" then some (.int 5 t5) else List.lookup y [(Str.ofString "shown", .ref sa), (Str.ofString "mask", .int mk tm), (Str.ofString "row", .ref ra)]) (Str.ofString "told") = some (Value.ref tA) := ⟨_, _, fun p hp => N2 p (.tail _ hp), F2, rfl⟩
  clear hK F2 N2
  obtain ⟨tA, t5, N2, F2, -⟩ := clean
  refine kd_range (news := [(tA, listOf (([] : List Value).toArray) 0)]) (fun c : TS => [(tA, listOf c.1.toArray c.2.2.1)]) [] (fun c => [(Str.ofString "shut", .int c.2.2.2.1 c.2.2.2.2)]) (fun _ c => IntsAre c.1 c.2.1) [Str.ofString "kind", Str.ofString "deep", Str.ofString "answer"]
    (fun pre c => c.2.1 ++ toldGo (hit mk) (ns.drop pre.length) pre.length c.2.2.2.1 = toldGo (hit mk) ns 0 5 ∧ c.1.length ≤ pre.length) [tA] ([], [], 0, 5, t5) rfl hR (range_small (by omega)) (rangeSize_nat _ _) F2 N2 (fun _ h => by simpa using h) (fun _ => rfl) IntsAre.nil (fun p hp => ?_) ⟨rfl, Nat.le_refl _⟩ ?turn ?done
  · rw [List.mem_singleton.mp hp]; rfl
  case turn =>
    rintro ⟨vs1, is1, ep1, sh, tsh⟩ tl pre k t u' h' tk' own hk0 hkn hsep hoff hI ⟨hP, hPl⟩ F3 N3
    dsimp only at hI hP hPl F3 N3
    try k_fold
    k_steps
    unfold Hold
    have hkl : pre.length < ns.length := by omega
    have hn : ns[pre.length]? = some (ns[pre.length]'hkl) := List.getElem?_eq_getElem hkl
    generalize ns[pre.length]'hkl = n at hn
    obtain ⟨v, hv, b, t1, t2, t3, rfl, hb⟩ := hrn.get hn
    obtain ⟨hk1, hk2⟩ := hk n (List.mem_of_getElem? hn)
    obtain ⟨ha1, ha2⟩ := ha n (List.mem_of_getElem? hn)
    rename Fr _ _ _ _ => F4
    refine item_at (hrl.at fun o e => F4.keep _ o e) (by omega) (by omega) (x := .ref b) (by rw [show k.toNat = pre.length by omega]; simpa using hv) ?_
    have hb4 : Heap.IsList h' b #[.int n.kind t1, .int n.deep t2, .int n.ans t3] := hb.at fun o e => F4.keep _ o e
    have hgo : toldGo (hit mk) (ns.drop pre.length) pre.length sh = if sh < n.deep then toldGo (hit mk) (ns.drop (pre.length + 1)) (pre.length + 1) sh else if hit mk n = false then toldGo (hit mk) (ns.drop (pre.length + 1)) (pre.length + 1) 5 else if n.ans = 1 then (pre.length : Int) :: toldGo (hit mk) (ns.drop (pre.length + 1)) (pre.length + 1) 5 else if n.ans = 2 then toldGo (hit mk) (ns.drop (pre.length + 1)) (pre.length + 1) n.deep else toldGo (hit mk) (ns.drop (pre.length + 1)) (pre.length + 1) 5 := by
      rw [List.drop_eq_getElem_cons hkl, List.getElem_of_getElem? hn |>.2] <;> rfl
    rw [hgo] at hP
    clear hgo
    k_steps
    · rename sh < n.deep => hlt
      rename Fr _ _ _ _ => F9
      rename News _ _ _ _ => N9
      refine kd_end (vs1, is1, ep1, sh, tsh) [] hsep F9 N9 (fun p hp => ?_) (fun p hp => ?_) rfl (fun q hq => (nomatch hq)) (fun q hq => (nomatch hq)) (fun p hp => ?_) (fun z h1 h2 h3 => ?_) hI ⟨?_, ?_⟩
      · simp only [List.nil_append, List.cons_append, List.mem_cons, List.mem_append] at hp ⊢
        rcases hp with hp | hp
        · exact .inl hp
        · exact .inr (.inl hp)
      · simp only [List.nil_append, List.cons_append, List.mem_cons, List.mem_append]
        exact .inr (.inr hp)
      · rw [List.mem_singleton.mp hp]; rfl
      · have h2' := h2 _ (List.mem_singleton.mpr rfl)
        have h3' : ¬ z = Str.ofString "kind" ∧ ¬ z = Str.ofString "deep" ∧ ¬ z = Str.ofString "answer" := by simpa using h3
        simp [h1, h2', h3', kstB]
      · simpa [hlt] using hP
      · simp; omega
    · unfold Hold
      have hsh : shownInts[(n.kind - 1).toNat]? = some (shownInts.getD (n.kind - 1).toNat 0) := by
        rw [List.getD_eq_getElem?_getD, List.getElem?_eq_getElem (by show _ < 12; omega)]; rfl
      obtain ⟨ts, hts⟩ := hsi.get _ _ hsh
      rename Fr _ _ _ _ => F5
      refine item_at (hsl.at fun o e => F5.keep _ o e) (by omega) (by omega) (x := .int (shownInts.getD (n.kind - 1).toNat 0) ts) (by simpa using hts) ?_
      k_steps
      · rename Fr _ _ _ _ => F9
        rename News _ _ _ _ => N9
        rename ¬ sh < n.deep => hlt
        rename Builtin.bitAnd _ _ = 0 => hz
        have hht : hit mk n = false := by simpa [hit] using hz
        refine' kd_end (vs1, is1, ep1, 5, ?tk) [] hsep F9 N9 (fun p hp => ?h1) (fun p hp => ?h2) rfl (fun q hq => (nomatch hq)) (fun q hq => (nomatch hq)) (fun p hp => ?h3) (fun z h1 h2 h3 => ?h4) hI ⟨?h5, ?h6⟩
        case h3 => (rw [List.mem_singleton.mp hp]; rfl)
        case h1 =>
          simp only [List.nil_append, List.cons_append, List.append_assoc, List.mem_cons, List.mem_append] at hp ⊢
          rcases hp with hp | hp
          · exact .inl hp
          · exact .inr (.inl hp)
        case h2 =>
          simp [hp]
        case h4 =>
          have h2' := h2 _ (List.mem_singleton.mpr rfl)
          have h3' : ¬ z = Str.ofString "kind" ∧ ¬ z = Str.ofString "deep" ∧ ¬ z = Str.ofString "answer" := by simpa using h3
          have h2'' : ¬ z = Str.ofString "shut" := h2'
          simp [h1, h2'', h3', kstB]
        case h5 => (simpa [hlt, hht] using hP)
        case h6 => (simp; omega)
      · rename Fr _ _ _ _ => F9
        rename News _ _ _ _ => N9
        rename ¬ sh < n.deep => hlt
        rename Builtin.bitAnd _ _ ≠ 0 => hz
        have hht : hit mk n = true := by simpa [hit] using hz
        rename n.ans = 1 => h1a
        refine' kd_end (vs1 ++ [.int k t], is1 ++ [k], ep1 + 1, 5, ?tk) [] hsep F9 N9 (fun p hp => ?h1) (fun p hp => ?h2) rfl (fun q hq => (nomatch hq)) (fun q hq => (nomatch hq)) (fun p hp => ?h3) (fun z h1 h2 h3 => ?h4) (ints_snoc hI) ⟨?h5, ?h6⟩
        case h3 => (rw [List.mem_singleton.mp hp]; rfl)
        case h1 =>
          simp only [List.nil_append, List.cons_append, List.append_assoc, List.mem_cons, List.mem_append] at hp ⊢
          rcases hp with hp | hp
          · exact .inl (by rw [hp]; simp)
          · exact .inr (by simp [hp])
        case h2 =>
          simp [hp]
        case h4 =>
          have h2' := h2 _ (List.mem_singleton.mpr rfl)
          have h3' : ¬ z = Str.ofString "kind" ∧ ¬ z = Str.ofString "deep" ∧ ¬ z = Str.ofString "answer" := by simpa using h3
          have h2'' : ¬ z = Str.ofString "shut" := h2'
          simp [h1, h2'', h3', kstB]
        case h5 => (simpa [hlt, hht, h1a, hk0] using hP)
        case h6 => (simp; omega)
      · rename Fr _ _ _ _ => F9
        rename News _ _ _ _ => N9
        rename ¬ sh < n.deep => hlt
        rename Builtin.bitAnd _ _ ≠ 0 => hz
        have hht : hit mk n = true := by simpa [hit] using hz
        rename n.ans ≠ 1 => h1a
        rename n.ans = 2 => h2a
        refine' kd_end (vs1, is1, ep1, n.deep, t2) [] hsep F9 N9 (fun p hp => ?h1) (fun p hp => ?h2) rfl (fun q hq => (nomatch hq)) (fun q hq => (nomatch hq)) (fun p hp => ?h3) (fun z h1 h2 h3 => ?h4) hI ⟨?h5, ?h6⟩
        case h3 => (rw [List.mem_singleton.mp hp]; rfl)
        case h1 =>
          simp only [List.nil_append, List.cons_append, List.append_assoc, List.mem_cons, List.mem_append] at hp ⊢
          rcases hp with hp | hp
          · exact .inl hp
          · exact .inr (.inl hp)
        case h2 =>
          simp [hp]
        case h4 =>
          have h2' := h2 _ (List.mem_singleton.mpr rfl)
          have h3' : ¬ z = Str.ofString "kind" ∧ ¬ z = Str.ofString "deep" ∧ ¬ z = Str.ofString "answer" := by simpa using h3
          have h2'' : ¬ z = Str.ofString "shut" := h2'
          simp [h1, h2'', h3', kstB]
        case h5 => (simpa [hlt, hht, h1a, h2a] using hP)
        case h6 => (simp; omega)
      · rename n.ans ≠ 1 => h1a
        rename n.ans ≠ 2 => h2a
        rename n.ans ≠ 3 => h3a
        omega
      · rename Fr _ _ _ _ => F9
        rename News _ _ _ _ => N9
        rename ¬ sh < n.deep => hlt
        rename Builtin.bitAnd _ _ ≠ 0 => hz
        have hht : hit mk n = true := by simpa [hit] using hz
        rename n.ans ≠ 1 => h1a
        rename n.ans ≠ 2 => h2a
        refine' kd_end (vs1, is1, ep1, 5, ?tk) [] hsep F9 N9 (fun p hp => ?h1) (fun p hp => ?h2) rfl (fun q hq => (nomatch hq)) (fun q hq => (nomatch hq)) (fun p hp => ?h3) (fun z h1 h2 h3 => ?h4) hI ⟨?h5, ?h6⟩
        case h3 => (rw [List.mem_singleton.mp hp]; rfl)
        case h1 =>
          simp only [List.nil_append, List.cons_append, List.append_assoc, List.mem_cons, List.mem_append] at hp ⊢
          rcases hp with hp | hp
          · exact .inl hp
          · exact .inr (.inl hp)
        case h2 =>
          simp [hp]
        case h4 =>
          have h2' := h2 _ (List.mem_singleton.mpr rfl)
          have h3' : ¬ z = Str.ofString "kind" ∧ ¬ z = Str.ofString "deep" ∧ ¬ z = Str.ofString "answer" := by simpa using h3
          have h2'' : ¬ z = Str.ofString "shut" := h2'
          simp [h1, h2'', h3', kstB]
        case h5 => (simpa [hlt, hht, h1a, h2a] using hP)
        case h6 => (simp; omega)
  case done =>
    rintro ⟨vs1, is1, ep1, sh, tsh⟩ tl u' h' tk' hoff hI ⟨hP, hPl⟩ F3 N3
    k_steps
    have e9 : (rangeKs 0 (↑ns.length - 0 : Int).toNat).length = ns.length := by rw [rangeKs_length]; omega
    rw [e9, List.drop_length] at hP
    rename Fr _ _ _ _ => F9
    rename News _ _ _ _ => N9
    have fin : ListPost s (toldGo (hit mk) ns 0 5) (.ok (.ret (.ref tA))) { s with heap := h', toks := tk' } := ⟨tA, vs1, ep1, rfl, (N9 _ List.mem_cons_self).1, (N9 _ List.mem_cons_self).2.2, by rw [← hP]; simpa [toldGo] using hI, _, _, rfl, F9.keep⟩
    exact fin
end
end Mine
namespace Mine
open PySem PySem.W PyProof.Rows PySem.Calls
set_option maxRecDepth 100000
set_option linter.all false
theorem warm5 : PySem.Challenge.rw_kn0096_01 = PySem.Challenge.rw_kn0096_01 ∧ hd.heap_39 = hd.heap_39 := by
  k_fill
  exact ⟨rfl, rfl⟩
theorem call_cells {prog : Program} {w : World} {A : Around} {s : Shared} {R : Result → Shared → Prop} {name qual : Str} {params : Arguments} {body : List Stmt} {scope : Scope}
    {dV kV doc pm cdv ct : Value} {an : Option Addr} {fo : Obj} {f : Addr} {args : Args} {binds : List (Str × Value)}
    (hlim : s.heap.NoLimit)
    (ho : s.heap.get? f = some fo) (hd : fo.data = .func (fnOf name qual params body scope dV kV doc pm an cdv ct)) (hcd : s.heap.CodeRec cdv qual) (hroom : A.depth < recursionLimit)
    (hbind : BindsTo s (fnOf name qual params body scope dV kV doc pm an cdv ct) args binds)
    (hkind : (binds.all fun y => scope.names.lookup y.1 == some .local || scope.names.lookup y.1 == some .cell) = true)
    (hnd : ((cellsFrom 0 scope.names []).map (·.1)).Nodup)
    (h : ∀ h₁ tk cells, Fr s.heap s.heap.objs.size h₁ (bindL (envOfC qual scope s.heap.objs.size f cdv).kindOf binds fun _ => none) → News s.heap s.heap.objs.size h₁ cells →
      CellsAre (bindC (envOfC qual scope s.heap.objs.size f cdv).kindOf binds fun _ => none) (cellsFrom (s.heap.objs.size + 1) scope.names []) cells →
      wpAny (model prog w) (A.deeper (envOfC qual scope s.heap.objs.size f cdv)) (execs body (envOfC qual scope s.heap.objs.size f cdv))
        (fun fl s' => R (.ok (.ret (match fl with | .ret v => v | _ => .none))) s')
        (fun e s' => wpAny (model prog w) (A.deeper (envOfC qual scope s.heap.objs.size f cdv)) (leaving (envOfC qual scope s.heap.objs.size f cdv) e) (fun _ s'' => R (.error e) s'') (fun e' s'' => R (.error e') s'') s')
        { s with heap := h₁, toks := tk })
    (hco : scope.isCoroutine = false := by rfl) (hgen : scope.isGenerator = false := by rfl) (hk : scope.kind = .function := by rfl) : codeAny (model prog w) A (.call (.ref f) args) R s := by
  refine codeAny_call_function hroom ho hd hco hgen rfl hcd (hbind _ _ _ _ ?_)
  refine wpAny_newFunctionEnv_cells hk (kindsX hkind _) fun env' he s' x => ?_
  subst he
  refine ⟨hlim.keeps x.toInCall.keep, codeAny_func ?_⟩
  obtain ⟨h₁, tk, rfl, _⟩ := x.done
  obtain ⟨cells, NC, Y⟩ := Cl.news (h₀ := s.heap) (Nat.le_refl _) fun n c hm => ⟨x.cell n c (lookup_of_mem_nodup (cellsFrom_names scope.names 0 (s.heap.objs.size + 1) [] [] rfl ▸ hnd) hm), x.above n c hm⟩
  exact h h₁ tk cells ⟨x.toInCall.ns, x.toInCall.keep, Nat.le_refl _⟩ NC Y
/-- where to look: a range over the row, or a list of its places -/
def PlacesAt (h : Heap) (a : Addr) (is : List Int) : Prop := (∃ (n : Nat) (t u v : Tok), IsRange h a 0 n 1 t u v ∧ n ≤ 1000 ∧ is = rangeKs 0 n) ∨ ∃ vs : List Value, h.IsList a vs.toArray ∧ IntsAre vs is
/-- bit kind-1 of a number -/
def bitAt (bits kind : Int) : Bool := decide ((bits.fdiv (2 ^ (kind - 1).toNat)).fmod 2 = 1)
def thereP (bits : Int) (as : List Int) (n : Node) : Bool := bitAt bits n.kind && as.any (· == n.ans)
def atP (p : Node → Bool) (ns : List Node) (k : Int) : Bool := match ns[k.toNat]? with | some n => p n | none => false
def valP (p : Int → Bool) : Value → Bool
  | .int k _ => p k
  | _ => false
theorem iter_places {prog : Program} {w : World} {A : Around} {E : Value → Shared → Prop} {s : Shared} {pa : Addr} {is : List Int} {Q : Value → Shared → Prop} (hh : A.handled = none) (hp : PlacesAt s.heap pa is)
    (h : ∀ I fp P St h', Walks prog w A I fp [I] is.length P St → St 0 h' → (∀ b ∈ fp, b < h'.objs.size) → (∀ i v, P i v → ∃ k t, is[i]? = some k ∧ v = .int k t) →
      (∀ b o, s.heap.get? b = some o → h'.get? b = some o) → s.heap.get? I = none → Q (.ref I) { s with heap := h' }) :
    wpAny (model prog w) A (pyIter (.ref pa)) Q E s := by
  rcases hp with ⟨n, t, u, v, hr, hn, rfl⟩ | ⟨vs, hl, hi⟩
  · refine wpAny_pyIter_range hr (range_small hn) ?_
    have W : Walks prog w A s.heap.objs.size [s.heap.objs.size] [s.heap.objs.size] n (fun i v => i < n ∧ ∃ t, v = .int (0 + i * 1) t)
      (fun i h => IsRangeIter h s.heap.objs.size (0 + (i : Nat) * 1) ((n : Int) - (i : Nat)) 1) := (Walks.range hh _ 0 1 n).bound
    refine h _ _ _ _ _ (by rw [rangeKs_length]; exact W) ?_ ?_ ?_ (fun _ _ e => Heap.get?_push_of_some _ e) (Heap.get?_none_of_le (Nat.le_refl _))
    · show IsRangeIter _ _ _ _ _
      rw [rangeSize_nat]
      simpa using Heap.get?_push_size _ rfl
    · intro b hb
      rw [List.mem_singleton.mp hb, Heap.size_push]
      exact Nat.lt_succ_self _
    · rintro i v ⟨hi, t, rfl⟩
      exact ⟨(i : Int), t, by simp [rangeKs, hi], by simp⟩
  · have hlt : pa < s.heap.objs.size := by obtain ⟨_, e, _⟩ := hl; exact Heap.lt_size e
    refine wpAny_pyIter_list hl ?_
    have W := Walks.list (prog := prog) (w := w) hh s.heap.objs.size pa (Nat.ne_of_lt hlt) vs.toArray
    have e9 : vs.toArray.size = is.length := by simp [hi.length]
    rw [e9] at W
    refine h _ _ _ _ _ W ⟨⟨_, Heap.get?_push_size _ rfl, rfl, rfl⟩, hl.push _⟩ ?_ ?_ (fun _ _ e => Heap.get?_push_of_some _ e) (Heap.get?_none_of_le (Nat.le_refl _))
    · intro b hb
      show b < (s.heap.push _).objs.size
      rw [Heap.size_push]
      rcases List.mem_cons.mp hb with rfl | hb
      · exact Nat.lt_succ_self _
      · rw [List.mem_singleton.mp hb]; exact Nat.lt_succ_of_lt hlt
    · intro i v hv
      have hv' : vs[i]? = some v := by simpa using hv
      have hlt : i < is.length := by rw [← hi.length]; exact (List.getElem?_eq_some_iff.mp hv').1
      obtain ⟨t, ht⟩ := hi.get i is[i] (List.getElem?_eq_getElem hlt)
      rw [hv'] at ht
      exact ⟨is[i], t, List.getElem?_eq_getElem hlt, Option.some.inj ht⟩
theorem paired_eq : ∀ {a b : List Value}, Paired (fun v y => y = v) a b → b = a
  | _, _, .nil => rfl
  | _, _, .cons h r => by rw [h, paired_eq r]
theorem ints_of : ∀ {vs : List Value} {is : List Int}, vs.length = is.length → (∀ (j : Nat) v, vs[j]? = some v → ∃ (k : Int) (t : Tok), is[j]? = some k ∧ v = Value.int k t) → IntsAre vs is
  | [], [], _, _ => .nil
  | v :: vs, i :: is, hl, h => by
    obtain ⟨k, t, e, rfl⟩ := h 0 v rfl
    cases e
    exact .cons _ _ (ints_of (by simpa using hl) fun j v e => by simpa using h (j + 1) v (by simpa using e))
theorem ints_filter {vs : List Value} {is : List Int} (h : IntsAre vs is) (p : Int → Bool) : IntsAre (vs.filter (valP p)) (is.filter p) := by
  induction h with
  | nil => exact .nil
  | cons n t _ ih =>
    by_cases e : p n = true
    · rw [List.filter_cons_of_pos (by simpa [valP] using e), List.filter_cons_of_pos e]
      exact .cons n t ih
    · rw [List.filter_cons_of_neg (by simpa [valP] using e), List.filter_cons_of_neg e]
      exact ih
section
variable {prog : Program} {w : World} {d u : Nat} {gs : Option (List Code)} {base : Heap} {outer : List Env} {s : Shared} {mean : ExcName → Option Value} {mg mb : Str → Option Value}
local macro_rules | `(tactic| walk_at "no such key 1") => `(tactic| fail "none")
local macro_rules | `(tactic| walk_at "no such key 0") => `(tactic| fail "none")
local macro_rules | `(tactic| walk_at "eval ListComp") => `(tactic| refine hold ?_)
local macro_rules | `(tactic| walk_at "eval Name") => `(tactic| refine hold ?_)
local macro_rules | `(tactic| walk_at "subscriptTail") => `(tactic| refine hold ?_)
set_option maxHeartbeats 8000000 in
theorem there_spec (B : Below (AR d outer gs u) base outer s.heap) (XB : (hd.heap_39 w.params).In base) (TB : Top hd.view_39 (looseW hd.view_39 [Str.ofString "NodeFilter"]) mean mg mb base)
   (hroom : d + 20 < recursionLimit) {ra pa ta : Addr} {bits : Int} {tb : Tok} {ns : List Node} {is as : List Int} {avs : List Value}
   (hr : RowAt s.heap ra ns) (hp : PlacesAt s.heap pa is) (hi : ∀ i ∈ is, 0 ≤ i ∧ i < (ns.length : Int)) (ha : IsTup s.heap ta avs.toArray) (hai : IntsAre avs as)
   (hk : ∀ n ∈ ns, 1 ≤ n.kind ∧ n.kind ≤ 12) (hlen : ns.length ≤ 50) (hsz : is.length ≤ 1000) :
   codeAny (model prog w) (AR d outer gs u) (.call (.ref 61) ⟨[.ref ra, .int bits tb, .ref pa, .ref ta], []⟩)
     (ListPost s (is.filter (atP (thereP bits as) ns))) s := by
  w_top off
  have X := XB.keeps B.stays
  have T := TB.keeps B.stays
  obtain ⟨rvs, hrl, hrn⟩ := hr
  refine call_cells T.nolimit (X 61 _ (by k_is)) rfl (codeRec_of X (by k_is)) (by show d < _; omega) (BindsTo.of_eq rfl) rfl (by decide +kernel) (fun h₁ tk cells F N Y => ?_)
  have hY := CellsAre.three Y
  obtain ⟨o1, o2, o3, hE, d1, d2, d3⟩ := hY
  subst hE
  clear Y
  replace d1 : o1.data = .cell (some (.ref ta)) := d1
  replace d2 : o2.data = .cell (some (.int bits tb)) := d2
  replace d3 : o3.data = .cell (some (.ref ra)) := d3
  k_steps
  unfold Hold
  refine wpAny_ListComp_free (valP (atP (thereP bits as) ns)) (fun v y => y = v) (by with_unfolding_all rfl) (by decide) rfl (by decide) rfl ?_
  refine wpAny_Name (wpAny_loadName_local rfl rfl F.ns (v := .ref pa) rfl ?_) (by decide)
  refine iter_places rfl (pa := pa) (is := is) ?_ fun I fp P St h₂ W hSt hfp hP hup hI => ⟨I, fp, [I], is.length, P, St, rfl, W, ?_, hSt, hfp, ⟨?_, ?_⟩, ?_⟩
  · rcases hp with ⟨n, t, u', v, hr, hn, rfl⟩ | ⟨vs, hl, hi'⟩
    · exact .inl ⟨n, t, u', v, F.keep _ _ hr, hn, rfl⟩
    · exact .inr ⟨vs, hl.at fun o e => F.keep _ o e, hi'⟩
  · exact Nat.le_trans hsz (by rw [sizeLine_eq]; decide)
  · intro C i v s₃ m₃ E' hC hPv hns hmk hkeep _
    obtain ⟨k, t, hk', rfl⟩ := hP i v hPv
    have up : ∀ b o, h₁.get? b = some o → s₃.heap.get? b = some o := fun b o e => hkeep b o (fun hm => by rw [List.mem_singleton.mp hm] at e; rw [hI] at e; cases e) (hup b o e)
    refine wpAny_tests_one ?_
    have hk0 := hi k (List.mem_of_getElem? hk')
    have hkl : k.toNat < ns.length := by omega
    have hn : ns[k.toNat]? = some (ns[k.toNat]'hkl) := List.getElem?_eq_getElem hkl
    generalize ns[k.toNat]'hkl = n at hn
    obtain ⟨v, hv, b, t1, t2, t3, rfl, hb⟩ := hrn.get hn
    obtain ⟨hk1, hk2⟩ := hk n (List.mem_of_getElem? hn)
    have c1 : Heap.IsCell s₃.heap _ _ := ⟨o1, up _ _ (N (_, o1) (.head _)).1, d1⟩
    have c2 : Heap.IsCell s₃.heap _ _ := ⟨o2, up _ _ (N (_, o2) (.tail _ (.head _))).1, d2⟩
    have c3 : Heap.IsCell s₃.heap _ _ := ⟨o3, up _ _ (N (_, o3) (.tail _ (.tail _ (.head _)))).1, d3⟩
    have up0 : ∀ b o, s.heap.get? b = some o → s₃.heap.get? b = some o := fun b o e => up b o (F.keep b o e)
    have hpv : valP (atP (thereP bits as) ns) (.int k t) = (bitAt bits n.kind && as.any (· == n.ans)) := by simp [valP, atP, hn, thereP]
    rw [hpv]
    k_steps
    unfold Hold
    refine wpAny_Name (wpAny_loadName_cell rfl rfl rfl c2 ?_) (by decide)
    k_steps
    unfold Hold
    refine wpAny_Name (wpAny_loadName_cell rfl rfl rfl c3 ?_) (by decide)
    k_steps
    unfold Hold
    refine wpAny_Name (wpAny_loadName_local rfl rfl hns hmk ?_) (by decide)
    k_steps
    unfold Hold
    refine item_at (hrl.at fun o e => up0 _ o e) (by omega) (by omega) (x := .ref b) (by simpa using hv) ?_
    k_steps
    unfold Hold
    refine item_at (hb.at fun o e => up0 _ o e) (by decide) (by decide) (x := .int n.kind t1) rfl ?_
    k_steps
    · unfold Hold
      refine wpAny_Name (wpAny_loadName_cell rfl rfl rfl c3 ?_) (by decide)
      k_steps
      unfold Hold
      refine wpAny_Name (wpAny_loadName_local rfl rfl hns hmk ?_) (by decide)
      k_steps
      unfold Hold
      refine item_at (hrl.at fun o e => up0 _ o e) (by omega) (by omega) (x := .ref b) (by simpa using hv) ?_
      k_steps
      unfold Hold
      refine item_at (hb.at fun o e => up0 _ o e) (by decide) (by decide) (x := .int n.ans t3) rfl ?_
      k_steps
      unfold Hold
      refine wpAny_Name (wpAny_loadName_cell rfl rfl rfl c1 ?_) (by decide)
      refine in_tuple_ints (ns := as) (IsTup.keeps ha up0) (by simpa using hai) ?_
      k_steps
      · rename (bits.fdiv _).fmod 2 = 1 => e1
        rename as.any _ = true => e2
        rw [e2, bitAt, decide_eq_true e1]; rfl
      · exact ⟨_, _, rfl, fun _ _ e => e⟩
      · rename (bits.fdiv _).fmod 2 = 1 => e1
        rename as.any _ = false => e2
        rw [e2, Bool.and_false]
      · exact ⟨_, _, rfl, fun _ _ e => e⟩
    · rename (bits.fdiv _).fmod 2 ≠ 1 => e1
      rw [bitAt, decide_eq_false e1]; rfl
    · exact ⟨_, _, rfl, fun _ _ e => e⟩
  · intro C i v s₃ m₃ E' hC hPv _ hns hmk hkeep _
    refine wpAny_Name (wpAny_loadName_local rfl rfl hns hmk ⟨rfl, ⟨_, _, rfl, fun _ _ e => e⟩⟩) (by decide)
  · intro D h' tk' ys vs hD hl hpl hlen' hP' hF hkeep
    have hys := paired_eq hF
    obtain ⟨oD, hoD⟩ := hpl
    have hup' : ∀ b o, s.heap.get? b = some o → h'.get? b = some o := fun b o e => hkeep b o (fun hm => by
      have e' := F.keep b o e
      rw [List.mem_singleton.mp hm] at e'
      rw [hI] at e'; cases e') (hup b o (F.keep b o e))
    have fin : ListPost s (is.filter (atP (thereP bits as) ns)) (.ok (.ret (.ref D))) { s with heap := h', toks := tk' } := by
      refine ⟨D, ys.toList, _, rfl, by simpa using hoD, ?_, ?_, _, _, rfl, hup'⟩
      · cases e : s.heap.get? D with
        | none => rfl
        | some o => have := hup D o (F.keep D o e); rw [hD] at this; cases this
      · rw [hys]
        exact ints_filter (ints_of hlen' fun j v e => hP j v (hP' j v e)) _
    exact fin
end
end Mine
namespace Mine
open PySem PySem.W PyProof.Rows PySem.Calls
set_option maxRecDepth 100000
set_option linter.all false
inductive Rel2 {α : Type} (R : Value → α → Prop) : List Value → List α → Prop
  | nil : Rel2 R [] []
  | cons {v vs x xs} : R v x → Rel2 R vs xs → Rel2 R (v :: vs) (x :: xs)
theorem Rel2.mono {α : Type} {R S : Value → α → Prop} (h : ∀ v x, R v x → S v x) : ∀ {vs : List Value} {xs : List α}, Rel2 R vs xs → Rel2 S vs xs
  | _, _, .nil => .nil
  | _, _, .cons a r => .cons (h _ _ a) (r.mono h)
theorem Rel2.length {α : Type} {R : Value → α → Prop} : ∀ {vs : List Value} {xs : List α}, Rel2 R vs xs → vs.length = xs.length
  | _, _, .nil => rfl
  | _, _, .cons _ r => congrArg (· + 1) r.length
theorem Rel2.snoc {α : Type} {R : Value → α → Prop} {v : Value} {x : α} (h : R v x) : ∀ {vs : List Value} {xs : List α}, Rel2 R vs xs → Rel2 R (vs ++ [v]) (xs ++ [x])
  | _, _, .nil => .cons h .nil
  | _, _, .cons a r => .cons a (r.snoc h)
theorem Rel2.get {α : Type} {R : Value → α → Prop} : ∀ {vs : List Value} {xs : List α}, Rel2 R vs xs → ∀ {i : Nat} {x : α}, xs[i]? = some x → ∃ v, vs[i]? = some v ∧ R v x
  | _, _, .nil, _, _, e => by simp at e
  | _, _, .cons a r, 0, _, e => ⟨_, rfl, by cases e; exact a⟩
  | _, _, .cons a r, i + 1, _, e => r.get (i := i) (by simpa using e)
/-- a node, or the places above it, as the ledger bears them -/
def NodeIn (l : List (Addr × Obj)) (v : Value) (n : Node) : Prop := ∃ b t1 t2 t3, v = .ref b ∧ (b, listOf ([.int n.kind t1, .int n.deep t2, .int n.ans t3] : List Value).toArray 0) ∈ l
def AboveIn (l : List (Addr × Obj)) (v : Value) (is : List Int) : Prop := ∃ b vs, v = .ref b ∧ (b, listOf (vs : List Value).toArray 0) ∈ l ∧ IntsAre vs is
theorem NodeIn.mono {l l' : List (Addr × Obj)} (h : ∀ p ∈ l, p ∈ l') {v : Value} {n : Node} (x : NodeIn l v n) : NodeIn l' v n :=
  let ⟨b, t1, t2, t3, e, hm⟩ := x; ⟨b, t1, t2, t3, e, h _ hm⟩
theorem AboveIn.mono {l l' : List (Addr × Obj)} (h : ∀ p ∈ l, p ∈ l') {v : Value} {n : List Int} (x : AboveIn l v n) : AboveIn l' v n :=
  let ⟨b, vs, e, hm, hi⟩ := x; ⟨b, vs, e, h _ hm, hi⟩
/-- what the law has built: the nodes, the places above each, the path -/
structure BS where
  ns : List Node
  ab : List (List Int)
  path : List Int
def deepOf (path : List Int) (x : Int) : Int := if (x.fdiv 12).fmod 5 < (path.length : Int) then (x.fdiv 12).fmod 5 else path.length
def bstep (b : BS) (x : Int) : BS :=
  ⟨b.ns ++ [⟨1 + x.fmod 12, deepOf b.path x, 1 + (x.fdiv 60).fmod 3⟩], b.ab ++ [b.path.take (deepOf b.path x).toNat], b.path.take (deepOf b.path x).toNat ++ [((b.ns.length + 1 : Nat) : Int) - 1]⟩
def build (xs : List Int) : BS := xs.foldl bstep ⟨[], [], []⟩
theorem build_snoc (xs : List Int) (x : Int) : build (xs ++ [x]) = bstep (build xs) x := by simp [build]
theorem fmod_range (a : Int) {n : Int} (h : 0 < n) : 0 ≤ a.fmod n ∧ a.fmod n < n := ⟨Int.fmod_nonneg_of_pos a h, Int.fmod_lt_of_pos a h⟩
theorem deepOf_range (path : List Int) (x : Int) : 0 ≤ deepOf path x ∧ deepOf path x ≤ path.length ∧ deepOf path x ≤ 4 := by
  have h := fmod_range (x.fdiv 12) (n := 5) (by decide)
  unfold deepOf
  split <;> omega
theorem snoc_ind {α : Type} {P : List α → Prop} (h0 : P []) (h1 : ∀ xs x, P xs → P (xs ++ [x])) : ∀ xs, P xs := by
  have h : ∀ ys : List α, P ys.reverse := by
    intro ys
    induction ys with
    | nil => exact h0
    | cons y ys ih => rw [List.reverse_cons]; exact h1 _ _ ih
  intro xs
  have := h xs.reverse
  rwa [List.reverse_reverse] at this
theorem build_len : ∀ xs : List Int, (build xs).ns.length = xs.length ∧ (build xs).ab.length = xs.length ∧ (build xs).path.length ≤ 5 := by
  refine snoc_ind ?_ ?_
  · simp [build]
  · intro xs x ih
    rw [build_snoc]
    have h := deepOf_range (build xs).path x
    simp only [bstep, List.length_append, List.length_singleton, List.length_take]
    omega
end Mine
namespace Mine
open PySem PySem.W PyProof.Rows PySem.Calls
set_option maxRecDepth 100000
set_option linter.all false
theorem iter_list {prog : Program} {w : World} {A : Around} {E : Value → Shared → Prop} {s : Shared} {l : Addr} {items : Array Value} {Q : Value → Shared → Prop} (hh : A.handled = none) (hl : s.heap.IsList l items)
    (h : ∀ I St h', Walks prog w A I [I, l] [I] items.size (fun i v => items[i]? = some v) St → (∀ i h, St i h → ∀ b ∈ [I], ∃ o, h.get? b = some o) → St 0 h' → (∀ b ∈ [I, l], b < h'.objs.size) →
      (∀ b o, s.heap.get? b = some o → h'.get? b = some o) → s.heap.get? I = none → Q (.ref I) { s with heap := h' }) :
    wpAny (model prog w) A (pyIter (.ref l)) Q E s := by
  have hlt : l < s.heap.objs.size := by obtain ⟨_, e, _⟩ := hl; exact Heap.lt_size e
  refine wpAny_pyIter_list hl ?_
  have W := Walks.list (prog := prog) (w := w) hh s.heap.objs.size l (Nat.ne_of_lt hlt) items
  refine h _ _ _ W ?_ ⟨⟨_, Heap.get?_push_size _ rfl, rfl, rfl⟩, hl.push _⟩ ?_ (fun _ _ e => Heap.get?_push_of_some _ e) (Heap.get?_none_of_le (Nat.le_refl _))
  · intro i h st b hb
    obtain ⟨o, e, _⟩ := st.1
    exact ⟨o, by rw [List.mem_singleton.mp hb]; exact e⟩
  · intro b hb
    show b < (s.heap.push _).objs.size
    rw [Heap.size_push]
    rcases List.mem_cons.mp hb with rfl | hb
    · exact Nat.lt_succ_self _
    · rw [List.mem_singleton.mp hb]; exact Nat.lt_succ_of_lt hlt
theorem NodeIn.monoD {l l' : List (Addr × Obj)} (h : ∀ p ∈ l, (∃ its n, p.2 = listOf its n) → p ∈ l') {v : Value} {n : Node} (x : NodeIn l v n) : NodeIn l' v n :=
  let ⟨b, t1, t2, t3, e, hm⟩ := x; ⟨b, t1, t2, t3, e, h _ hm ⟨_, _, rfl⟩⟩
theorem AboveIn.monoD {l l' : List (Addr × Obj)} (h : ∀ p ∈ l, (∃ its n, p.2 = listOf its n) → p ∈ l') {v : Value} {n : List Int} (x : AboveIn l v n) : AboveIn l' v n :=
  let ⟨b, vs, e, hm, hi⟩ := x; ⟨b, vs, e, h _ hm ⟨_, _, rfl⟩, hi⟩
theorem NodeIn.at {h₀ h : Heap} {L : Addr} {news l : List (Addr × Obj)} (N : News h₀ L h news) (hs : ∀ p ∈ l, p ∈ news) {v : Value} {n : Node} (x : NodeIn l v n) : NodeAt h v n :=
  let ⟨b, t1, t2, t3, e, hm⟩ := x; ⟨b, t1, t2, t3, e, _, (N _ (hs _ hm)).1, rfl, 0, rfl⟩
theorem rel_nodes {h : Heap} : ∀ {vs : List Value} {ns : List Node}, Rel2 (NodeAt h) vs ns → NodesAt h vs ns
  | _, _, .nil => .nil
  | _, _, .cons a r => .cons a (rel_nodes r)
theorem fr_off {h₀ h : Heap} {L I : Addr} {m : Str → Option Value} (F : Fr h₀ L h m) (hI : h.get? I = none) : L ∉ [I] := fun hm => by
  obtain ⟨o, _, _, e, _⟩ := F.ns
  rw [List.mem_singleton.mp hm, hI] at e
  cases e
theorem Rel2.inv {α : Type} {R : Value → α → Prop} : ∀ {vs : List Value} {xs : List α}, Rel2 R vs xs → ∀ {i : Nat} {v : Value}, vs[i]? = some v → ∃ x, xs[i]? = some x ∧ R v x
  | _, _, .nil, _, _, e => by simp at e
  | _, _, .cons a r, 0, _, e => ⟨_, rfl, by cases e; exact a⟩
  | _, _, .cons a r, i + 1, _, e => r.inv (i := i) (by simpa using e)
/-- a copy of a node, as the ledger bears it -/
def KeptIn (l : List (Addr × Obj)) (v : Value) (n : Node) : Prop := ∃ b o t1 t2 t3 k, v = .ref b ∧ (b, o) ∈ l ∧ o.cls = .type "list" ∧ o.data = .seq ([.int n.kind t1, .int n.deep t2, .int n.ans t3] : List Value).toArray k
theorem KeptIn.mono {l l' : List (Addr × Obj)} (h : ∀ p ∈ l, p ∈ l') {v : Value} {n : Node} (x : KeptIn l v n) : KeptIn l' v n :=
  let ⟨b, o, t1, t2, t3, k, e, hm, r⟩ := x; ⟨b, o, t1, t2, t3, k, e, h _ hm, r⟩
theorem kept_led {h₁ h2 h3 : Heap} {G : Value → Array Value → Prop} : ∀ {vs ys : List Value} {ns : List Node}, Rel2 (fun v n => ∃ t1 t2 t3, ∀ its, G v its → its = ([.int n.kind t1, .int n.deep t2, .int n.ans t3] : List Value).toArray) vs ns → Paired (LstIs h2 G h3) vs ys →
    ∃ kl : List (Addr × Obj), (∀ p ∈ kl, h3.get? p.1 = some p.2 ∧ h2.get? p.1 = none) ∧ Rel2 (KeptIn kl) ys ns
  | _, _, _, .nil, .nil => ⟨[], fun _ h => (nomatch h), .nil⟩
  | _, _, _, .cons a r, .cons b q => by
    obtain ⟨kl, k1, k2⟩ := kept_led (h₁ := h₁) r q
    obtain ⟨t1, t2, t3, ha⟩ := a
    obtain ⟨T, its, rfl, hT, ⟨o, ho, hc, n, hd⟩, hG⟩ := b
    rw [ha its hG] at hd
    refine ⟨(T, o) :: kl, fun p hp => ?_, .cons ⟨T, o, t1, t2, t3, n, rfl, .head _, hc, hd⟩ (k2.mono fun _ _ h => h.mono fun p hp => .tail _ hp)⟩
    rcases List.mem_cons.mp hp with rfl | hp
    · exact ⟨ho, hT⟩
    · exact k1 p hp
section
variable {prog : Program} {w : World} {A : Around} {E : Value → Shared → Prop} {env : Env}
/-- a name bound to a comprehension whose items are new lists -/
theorem assign_compO {s : Shared} {elt iter : PySem.Expr} {x y : Str} {px py : Pos} {ifs : List PySem.Expr} {scope : Scope} {cl : List (Str × Addr)} {pos spos : Pos} {Q : Flow → Shared → Prop}
    (p : Value → Bool) (G : Value → Array Value → Prop)
    (hsw : swapsWith (.ListComp elt [⟨.Name x px, iter, ifs, 0⟩] scope pos) (some (.Name y py)) spos.line env = pure true)
    (hclos : closureFor scope env = pure cl) (hcell : ∀ z ∈ scope.names, z.2 ≠ .cell) (hkind : scope.kind = .function)
    (hnames : ∀ z ∈ scope.names, z.2 = .local → scope.names.lookup z.1 = some .local) (hx : scope.names.lookup x = some .local)
    (hy : env.kindOf y = some .local) (hp : (env.scope.kind == .class || (env.scope.kind == .module && env.locals != env.globals)) = false)
    (h : wpAny (model prog w) A (eval iter env) (fun xv s₁ => wpAny (model prog w) A (pyIter xv) (fun it s₂ => ∃ I fp wr n P St m, it = .ref I ∧ Walks prog w A I fp wr n P St ∧ n ≤ sizeLine ∧ (∀ i h, St i h → ∀ b ∈ wr, ∃ o, h.get? b = some o) ∧ St 0 s₂.heap ∧ (∀ b ∈ fp, b < s₂.heap.objs.size) ∧
      env.locals ∉ wr ∧ s₂.heap.Ns env.locals m ∧ QuietOnCO prog w A env scope cl x ifs elt wr P p G s₂ ∧
      (∀ D h' tk ys (vs : List Value), s₂.heap.get? D = none → h'.PlainList D ys → vs.length = n → (∀ j v, vs[j]? = some v → P j v) → Paired (LstIs s₂.heap G h') (vs.filter p) ys.toList →
        h'.Ns env.locals (fun z => if z = y then some (.ref D) else m z) → (∀ b o, b ≠ env.locals → b ∉ wr → s₂.heap.get? b = some o → h'.get? b = some o) → Q .next { s₂ with heap := h', toks := tk })) E s₁) E s)
    (hs : ∀ x, foldedSetIterable iter env x = pure x := by intro _; rfl) :
    wpAny (model prog w) A (exec (.Assign [.Name y py] (.ListComp elt [⟨.Name x px, iter, ifs, 0⟩] scope pos) spos) env) Q E s := by
  rw [exec_Assign_Name_used _ _ _ _ hsw]
  refine wpAny_bind (wpAny_standAt (wpAny_bind ?_))
  show wpAny _ A (do let _ ← comprehension (.ListComp elt [⟨.Name x px, iter, ifs, 0⟩] scope pos) scope env _ (newList []) false (eval iter env) (some (assign (.Name y py) env))) _ _ s
  refine wpAny_bind (wpAny_mono (wpAny_comprehension_free (use := some (assign (.Name y py) env)) (Q := fun _ s' => Q .next s') rfl hs hclos hkind hnames
    (wpAny_mono h (fun xv s₁ h₁ => wpAny_mono h₁ (fun it s₂ h₂ => ?_) fun _ _ e => e) fun _ _ e => e)) (fun _ s' hq => wpAny_pure (wpAny_pure hq)) fun _ _ e => e)
  obtain ⟨I, fp, wr, n, P, St, m, rfl, W, hsz, hlive, hst, hfp, hLf, hn, hq, hQ⟩ := h₂
  refine comp_block_walkCO (RR := fun acc C => compPost (model prog w) A E (some (assign (.Name y py) env)) (fun _ s' => Q .next s') acc C) W hsz p G hlive hcell hkind hx hst hfp hq ?_
  intro D C h' tk m' ys vs hD hC hDC hnC hlD hplD hlen hP hF hnd hk
  have hLC : env.locals ≠ C := fun e => by obtain ⟨o, _, _, ho, _⟩ := hn; rw [e, hC] at ho; cases ho
  have hLD : env.locals ≠ D := fun e => by obtain ⟨o, _, _, ho, _⟩ := hn; rw [e, hD] at ho; cases ho
  show wpAny _ A (assign (.Name y py) env (.ref D)) _ _ _
  refine wpAny_assign_Name (wpAny_storeName_local hy (hn.at' fun o e => hk _ o hLf e) (fun h₂ hn₂ hs₂ => ?_) hp)
  refine ⟨m', hnC.sameBut hs₂ (Ne.symm hLC), fun h₃ hs₃ => ?_⟩
  refine hQ D h₃ _ ys vs hD ((hplD.extBut hs₂.extBut (Ne.symm hLD)).extBut hs₃.extBut hDC) hlen hP (hF.mono fun v y hy => ?_) (hn₂.sameBut hs₃ hLC) fun b o hbL hbf e =>
    hs₃.extBut b o (fun e' => by rw [e', hC] at e; cases e) (hs₂.extBut b o hbL (hk b o hbf e))
  obtain ⟨T, its, rfl, h1, hTC, _, hTD, hlT, hG⟩ := hy
  have hTL : T ≠ env.locals := fun e => by obtain ⟨o, _, _, ho, _⟩ := hn; rw [← e, h1] at ho; cases ho
  exact ⟨T, its, rfl, h1, (hlT.extBut hs₂.extBut hTL).extBut hs₃.extBut hTC, hG⟩
end
end Mine
namespace Mine
open PySem PySem.W PyProof.Rows PySem.Calls PyProof.Rows.LCg
set_option maxRecDepth 100000
set_option linter.all false
section
variable {prog : Program} {w : World} {A : Around} {s : Shared} {h₀ : Heap} {L : Addr} {m : Str → Option Value} {env : Env}
theorem compEnd_mono {I C D : Addr} {s₁ s₂ : Shared} {oI oC oD : Obj} {S : List (Addr × Obj) → Prop} {R R' : Value → List (Addr × Obj) → Prop} {y : Value} (h : CompEnd h₀ L m s₁ I oI C oC D oD S R y s₂) (k : ∀ y n, R y n → R' y n) : CompEnd h₀ L m s₁ I oI C oC D oD S R' y s₂ :=
  let ⟨h', tk, n, e, F, N, o, hS, r⟩ := h; ⟨h', tk, n, e, F, N, o, hS, k _ _ r⟩
/-- a comprehension's turns by what holds between them -/
theorem rest_ind {elt : PySem.Expr} {x : Str} {scope : Scope} {cl : List (Str × Addr)} {S : List (Addr × Obj) → Prop} {P : Nat → Value → Prop} {Fin : List Value → List (Addr × Obj) → Prop} {n : Nat} (Inv : Nat → List Value → List (Addr × Obj) → Prop)
    (hfin : ∀ ys news, Inv n ys news → Fin ys news)
    (turn : ∀ i ys news, i < n → Inv i ys news → ∀ v I oI C oC D m₂ h tk (E' : Value → Shared → Prop), P i v → NsObj oC m₂ → m₂ x = some v → Fr h₀ L h m → News h₀ L h ((I, oI) :: (C, oC) :: (D, lst ys) :: news) → Off3 I C D news → ((@Ne Nat I C) ∧ (@Ne Nat I D) ∧ (@Ne Nat C D)) →
      wpAny (model prog w) A (eval elt (compEnvC scope cl C env)) (CompEnd h₀ L m { s with heap := h, toks := tk } I oI C oC D (lst ys) S (fun y news' => Inv (i + 1) (ys ++ [y]) news')) E' { s with heap := h, toks := tk }) :
    ∀ k i ys news, i + k = n → Inv i ys news → CompRest prog w A h₀ L m env elt x scope cl s S P Fin k i ys news
  | 0, i, ys, news, hk, hi => CompRest.zero (hfin _ _ (by have e : i = n := by omega
                                                          exact e ▸ hi))
  | k + 1, i, ys, news, hk, hi => CompRest.succ fun v I oI C oC D m₂ h tk E' h1 h2 h3 h4 h5 h6 h7 =>
    wpAny_mono (turn i ys news (by omega) hi v I oI C oC D m₂ h tk E' h1 h2 h3 h4 h5 h6 h7) (fun y s₂ he => compEnd_mono he fun y n hr => rest_ind Inv hfin turn k (i + 1) _ _ (by omega) hr) fun _ _ e => e
end
abbrev rangeObj (n : Int) (t u v : Tok) : Obj := { cls := .type "range", dict := none, data := .fields #[.int 0 t, .int n u, .int 1 v], slots := #[] }
theorem range_new {prog : Program} {w : World} {A : Around} {E : Value → Shared → Prop} {s : Shared} {h₀ : Heap} {L : Addr} {m : Str → Option Value} {Q : Value → Shared → Prop} {n : Int} {t : Tok} {news : List (Addr × Obj)} (F : Fr h₀ L s.heap m) (N : News h₀ L s.heap news)
    (h : ∀ r h' tk t₁ u₁ v₁, Fr h₀ L h' m → News h₀ L h' ((r, rangeObj n t₁ u₁ v₁) :: news) → (∀ p ∈ news, p.1 < r) → Q (.ref r) { s with heap := h', toks := tk }) :
    wpAny (model prog w) A (call (.type "range") [.int n t]) Q E s := by
  refine range1_rows F N fun h' tk t₁ u₁ v₁ hR F' N' _ => h _ h' tk t₁ u₁ v₁ F' (fun p hp => ?_) (fun p hp => Heap.lt_size (N p hp).1)
  rcases List.mem_cons.mp hp with rfl | hp
  · exact ⟨hR, Nat.ne_of_gt F.ns.lt, next_is_new F⟩
  · exact N' p hp
theorem allLt_all {d : Addr} {l : List (Addr × Obj)} (h : AllLt d l) : ∀ p ∈ l, p.1 < d := by
  induction l with
  | nil => exact fun _ hp => nomatch hp
  | cons q l ih =>
    obtain ⟨h1, h2⟩ := h
    intro p hp
    rcases List.mem_cons.mp hp with e | hp
    · rw [e]; exact h1
    · exact ih h2 p hp
/-- a pair of ints, as the ledger bears it -/
def PairIn (l : List (Addr × Obj)) (v : Value) (p : Int × Int) : Prop := ∃ T o t1 t2 k, v = .ref T ∧ (T, o) ∈ l ∧ o.cls = .type "tuple" ∧ o.data = .seq ([.int p.1 t1, .int p.2 t2] : List Value).toArray k
theorem PairIn.mono {l l' : List (Addr × Obj)} (h : ∀ p ∈ l, p ∈ l') {v : Value} {n : Int × Int} (x : PairIn l v n) : PairIn l' v n :=
  let ⟨b, o, t1, t2, k, e, hm, r⟩ := x; ⟨b, o, t1, t2, k, e, h _ hm, r⟩
def pows (i : Nat) : List (Int × Int) := (List.range i).map fun k => ((2 : Int) ^ k, (2 : Int) ^ k)
theorem pows_succ (i : Nat) : pows (i + 1) = pows i ++ [((2 : Int) ^ i, (2 : Int) ^ i)] := by simp [pows, List.range_succ]
end Mine
namespace Mine
open PySem PySem.W PyProof.Rows PySem.Calls PyProof.Rows.LCg
set_option maxRecDepth 100000
set_option linter.all false
section
variable {prog : Program} {w : World} {A : Around} {E : Value → Shared → Prop} {s : Shared} {h₀ : Heap} {L : Addr} {m : Str → Option Value}
theorem codeAny_forPair {R : Result → Shared → Prop} {elts : List PySem.Expr} {x1} {tp : Pos} {it : Value} {body orelse : List PySem.Stmt} {env : Env} (I : Nat → Shared → Prop)
    (turn : ∀ n s, I n s → wpAny (model prog w) A (pyNext it) (fun r s₁ => match r with
      | none => wpAny (model prog w) A (execs orelse env) (fun f s₃ => R (.ok f) s₃) (notedBy (model prog w) A env fun e s' => R (.error e) s') s₁
      | some v => wpAny (model prog w) A (letOwnedTupleGo (.Tuple elts x1 tp) it v) (fun _ s₁' => wpAny (model prog w) A (assign (.Tuple elts x1 tp) env v) (fun _ s₂ => wpAny (model prog w) A (execs body env) (fun f s₃ => match f with
          | .next | .cont => ∃ m, m < n ∧ I m s₃
          | .brk => R (.ok .next) s₃
          | .ret v => R (.ok (.ret v)) s₃) (notedBy (model prog w) A env fun e s' => R (.error e) s') s₂) (notedBy (model prog w) A env fun e s' => R (.error e) s') s₁') (notedBy (model prog w) A env fun e s' => R (.error e) s') s₁) (notedBy (model prog w) A env fun e s' => R (.error e) s') s)
    (n : Nat) (h : I n s) : codeAny (model prog w) A (.forLoop (.Tuple elts x1 tp) it body orelse env) R s := by
  refine codeAny_loop' rfl I (fun n s hI => ?_) n h
  show wpAny _ _ ((forTurn (.Tuple elts x1 tp) it body orelse env).onRaise (fun x => do noteFrame x env; theTreesLotGoes x)) _ _ s
  refine wpAny_noted ?_
  simp only [forTurn]
  refine wpAny_bind (wpAny_standAt (wpAny_bind (wpAny_onRaise (wpAny_mono (turn n s hI) (fun r s₁ h₁ => ?_) fun _ _ h' => wpAny_standAt h'))))
  cases r with
  | none => exact wpAny_pure (.inr ⟨rfl, codeAny_block h₁⟩)
  | some v =>
    refine wpAny_bind (wpAny_mono h₁ (fun _ s₁' h₁' => ?_) fun _ _ h' => h')
    refine wpAny_bind (wpAny_mono h₁' (fun _ s₂ h₂ => wpAny_bind (wpAny_mono h₂ (fun f s₃ h₃ => ?_) fun _ _ h' => h')) fun _ _ h' => h')
    cases f with
    | next => exact wpAny_pure (.inl ⟨rfl, h₃⟩)
    | cont => exact wpAny_pure (.inl ⟨rfl, h₃⟩)
    | brk => exact wpAny_pure h₃
    | ret v => exact wpAny_pure h₃

def FixOn (fix : List (Str × Value)) (m : Str → Option Value) : Prop := ∀ p ∈ fix, m p.1 = some p.2
theorem fix_one {m m₂ : Str → Option Value} {x : Str} {v : Value} (h : m x = some v) (e : m = m₂) : m = fun y => if y = x then some v else m₂ y := by
  subst e
  funext y
  by_cases q : y = x
  · rw [if_pos q, q]; exact h
  · rw [if_neg q]
/-- what the pair loop has between its turns -/
def PairSt (h₀ : Heap) (L C : Addr) (fix : List (Str × Value)) (rest : List (Addr × Obj)) (s s' : Shared) : Prop :=
  ∃ h tk m' o', s' = { s with heap := h, toks := tk } ∧ Fr h₀ L h m' ∧ FixOn fix m' ∧ News h₀ L h ((C, o') :: rest) ∧ ∃ v, o'.data = .cell v

/-- all that stood stands -/
structure KeepH (h h' : Heap) : Prop where
  k : ∀ b o, h.get? b = some o → h'.get? b = some o
theorem listpost_use {news : List (Addr × Obj)} {is : List Int} {r : Result} {s' : Shared} (F : Fr h₀ L s.heap m) (N : News h₀ L s.heap news) (P : ListPost s is r s') :
    ∃ D vs n h' tk', r = .ok (.ret (.ref D)) ∧ s' = { s with heap := h', toks := tk' } ∧ IntsAre vs is ∧ Fr h₀ L h' m ∧ News h₀ L h' ((D, listOf (vs : List Value).toArray n) :: news) ∧ (∀ p ∈ news, p.1 ≠ D) ∧ KeepH s.heap h' := by
  obtain ⟨D, vs, n, hr, hD, hDn, hI, h', tk', rfl, hk⟩ := P
  refine ⟨D, vs, n, h', tk', hr, rfl, hI, F.keeps hk, fun p hp => ?_, fun p hp e => ?_, ⟨hk⟩⟩
  · rcases List.mem_cons.mp hp with rfl | hp
    · refine ⟨hD, fun e => ?_, ?_⟩
      · dsimp only at e
        rw [e] at hDn
        obtain ⟨o, _, _, eL, _⟩ := F.ns
        rw [hDn] at eL; cases eL
      · cases e : h₀.get? D with
        | none => rfl
        | some o => have := F.keep _ _ e; rw [hDn] at this; cases this
    · exact (N.grown hk) p hp
  · have := (N p hp).1
    rw [e, hDn] at this; cases this
theorem ints_inv : ∀ {vs : List Value} {is : List Int}, IntsAre vs is → ∀ {i : Nat} {v : Value}, vs[i]? = some v → ∃ (k : Int) (t : Tok), is[i]? = some k ∧ v = Value.int k t
  | _, _, .nil, _, _, e => by simp at e
  | _, _, .cons n t r, 0, _, e => ⟨n, t, rfl, by cases e; rfl⟩
  | _, _, .cons n t r, i + 1, _, e => ints_inv r (i := i) (by simpa using e)
theorem fr_comp {h1 h2 h3 : Heap} {I : Addr} {m' : Str → Option Value} (F : Fr h₀ L h1 m) (hup : ∀ b o, h1.get? b = some o → h2.get? b = some o) (hI : h1.get? I = none)
    (hkeep : ∀ b o, b ≠ L → b ∉ [I] → h2.get? b = some o → h3.get? b = some o) (hn : h3.Ns L m') : Fr h₀ L h3 m' :=
  ⟨hn, fun b o e => hkeep b o (fun q => by rw [q, fr_self F] at e; cases e) (fun hm => by
    have e1 := F.keep b o e
    rw [List.mem_singleton.mp hm, hI] at e1; cases e1) (hup b o (F.keep b o e)), F.above⟩
theorem news_comp {h1 h2 h3 : Heap} {I D : Addr} {oD : Obj} {news : List (Addr × Obj)} (F : Fr h₀ L h1 m) (N : News h₀ L h1 news) (hup : ∀ b o, h1.get? b = some o → h2.get? b = some o) (hI : h1.get? I = none)
    (hkeep : ∀ b o, b ≠ L → b ∉ [I] → h2.get? b = some o → h3.get? b = some o) (hD : h2.get? D = none) (hoD : h3.get? D = some oD) : News h₀ L h3 ((D, oD) :: news) := fun p hp => by
  rcases List.mem_cons.mp hp with rfl | hp
  · refine ⟨hoD, fun e => ?_, ?_⟩
    · dsimp only at e
      obtain ⟨o, _, _, eL, _⟩ := F.ns
      have := hup _ _ eL
      rw [← e, hD] at this; cases this
    · cases e : h₀.get? D with
      | none => rfl
      | some o => have := hup _ _ (F.keep _ _ e); rw [hD] at this; cases this
  · refine ⟨hkeep _ _ (N p hp).2.1 (fun hm => ?_) (hup _ _ (N p hp).1), (N p hp).2⟩
    have e1 := (N p hp).1
    rw [List.mem_singleton.mp hm, hI] at e1; cases e1
theorem keepsT_use {news : List (Addr × Obj)} {s' : Shared} (F : Fr h₀ L s.heap m) (N : News h₀ L s.heap news) (P : KeepsT [L] s s') :
    ∃ h' tk', s' = { s with heap := h', toks := tk' } ∧ Fr h₀ L h' m ∧ News h₀ L h' news := by
  obtain ⟨h', tk', rfl, k1, k2⟩ := P
  have hL := fr_self F
  refine ⟨h', tk', rfl, ⟨ns_slots F.ns fun o e => k2 _ o e (.head _), fun b o e => k1 b o (F.keep b o e) (fun hm => ?_), F.above⟩, fun p hp => ⟨k1 _ _ (N p hp).1 (fun hm => (N p hp).2.1 (List.mem_singleton.mp hm)), (N p hp).2⟩⟩
  rw [List.mem_singleton.mp hm] at e
  rw [hL] at e; cases e
theorem for_pairs {cn : Str} {cs : Scope} {a : Addr} {ccd : Value} {cl : List (Str × Addr)} {x x₂ : Str} {px px₂ tp : Pos} {tk0} {iter : PySem.Expr} {body : List PySem.Stmt} {pos : Pos} {C AL : Addr} {o1 : Obj} {rest : List (Addr × Obj)} {items : List Value}
    {zs : List (Int × Int)} (fix : List (Str × Value)) {n0 : Nat} {v₀ : Option Value} {Q : Flow → Shared → Prop}
    {env : Env} (he : env = envX cn cs L a ccd cl) (hh : A.handled = none) (F : Fr h₀ L s.heap m) (hfix : FixOn fix m) (N : News h₀ L s.heap ((C, o1) :: rest)) (hR : ∀ p ∈ rest, p.1 ≠ C) (d1 : o1.data = .cell v₀)
    (hAL : (AL, listOf items.toArray n0) ∈ rest) (hZ : Rel2 (PairIn rest) items zs)
    (hc : cl.lookup x = some C) (hk : cs.kind = .function) (hx : (envX cn cs L a ccd cl).kindOf x = some .cell) (hx₂ : (envX cn cs L a ccd cl).kindOf x₂ = some .local)
    (hne : ∀ p ∈ fix, p.1 ≠ x₂) (hes : (assignEach [PySem.Expr.Name x px, PySem.Expr.Name x₂ px₂] env).findIdx? (·.1) = none)
    (hit : wpAny (model prog w) A (eval iter env) (fun v s1 => v = .ref AL ∧ s1 = s) E s)
    (turn : ∀ (i : Nat) (b k : Int) (t1 t2 : Tok) (I : Addr) (oI o' : Obj) (h : Heap) (tk : Nat) (m' : Str → Option Value), zs[i]? = some (b, k) → Fr h₀ L h (fun y => if y = x₂ then some (.int k t2) else m' y) → FixOn fix m' → News h₀ L h ((C, o') :: (I, oI) :: rest) → (∀ p ∈ (I, oI) :: rest, p.1 ≠ C) → o'.data = .cell (some (.int b t1)) →
      wpAny (model prog w) A (execs body env) (fun f s' => (f = .next ∨ f = .cont) ∧ PairSt h₀ L C fix ((I, oI) :: rest) s s') (fun _ _ => False) { s with heap := h, toks := tk })
    (done : ∀ s', PairSt h₀ L C fix rest s s' → Q .next s')
    (hs : ∀ x, foldedSetIterable iter env x = pure x := by intro _; rfl) :
    wpAny (model prog w) A (exec (.For (.Tuple [.Name x px, .Name x₂ px₂] tk0 tp) iter body [] pos) env) Q E s := by
  subst he
  refine wpAny_For (wpAny_mono hit (fun v s1 hv => ?_) fun _ _ e => e) hs
  obtain ⟨rfl, rfl⟩ := hv
  have zAL := N (AL, listOf items.toArray n0) (.tail _ hAL)
  have hl : s1.heap.IsList AL items.toArray := ⟨_, zAL.1, rfl, _, rfl⟩
  have hlt : AL < s1.heap.objs.size := Heap.lt_size zAL.1
  refine wpAny_pyIter_list hl ?_
  have up : ∀ b o, s1.heap.get? b = some o → (s1.heap.push { cls := .type "list_iterator", data := .fields #[.ref AL, .int 0 0] }).get? b = some o := fun b o e => Heap.get?_push_of_some _ e
  have W := Walks.list (prog := prog) (w := w) (A := A) hh s1.heap.objs.size AL (Nat.ne_of_lt hlt) items.toArray
  generalize hI : s1.heap.objs.size = I at W
  have hI₀ : h₀.get? I = none := hI ▸ next_is_new F
  have hLI : L ≠ I := Nat.ne_of_lt (hI ▸ F.ns.lt)
  have hoff : ∀ p ∈ (C, o1) :: rest, p.1 ≠ I := fun p hp => Nat.ne_of_lt (hI ▸ Heap.lt_size (N p hp).1)
  have hCI : C ≠ I := hoff _ (.head _)
  refine codeAny_forPair (fun k s' => ∃ i h tk m' o', s' = { s1 with heap := h, toks := tk } ∧ i ≤ items.toArray.size ∧ k = items.toArray.size + 1 - i ∧ (h.IsListIter I AL i ∧ h.IsList AL items.toArray) ∧ Fr h₀ L h m' ∧ FixOn fix m' ∧ News h₀ L h ((C, o') :: rest) ∧ ∃ v, o'.data = .cell v) ?_ (items.toArray.size + 1)
    ⟨0, _, s1.toks, m, o1, rfl, Nat.zero_le _, rfl, ⟨⟨_, hI ▸ Heap.get?_push_size _ rfl, rfl, rfl⟩, hl.push _⟩, F.keeps up, hfix, N.grown up, _, d1⟩
  rintro k s' ⟨i, h', tk, m', o', rfl, hi, rfl, hst, F', hf', N', v', d'⟩
  by_cases hlt : i < items.toArray.size
  · refine W.item i _ _ _ hlt hst fun v h₂ tk₂ hPv hst₂ hk₂ => ?_
    have hvi : items[i]? = some v := by simpa using hPv
    obtain ⟨⟨b, kk⟩, hzi, T, oT, t1, t2, nt, rfl, hmT, hcT, hdT⟩ := hZ.inv hvi
    have F₂ := fr_but F' hk₂ hLI hI₀
    have N₂ : News h₀ L h₂ ((C, o') :: rest) := news_but N' hk₂ fun p hp => by
      rcases List.mem_cons.mp hp with rfl | hp
      · exact hCI
      · exact hoff p (.tail _ hp)
    have ht : IsTup h₂ T ([.int b t1, .int kk t2] : List Value).toArray := ⟨oT, (N₂ _ (.tail _ hmT)).1, hcT, nt, hdT⟩
    refine wpAny_letOwnedTupleGo_listiter hst₂.1 ?_
    have hst₂' := hst₂
    obtain ⟨⟨oI, heI, hcI, hdI⟩, _⟩ := hst₂'
    have NI : News h₀ L h₂ ((C, o') :: (I, oI) :: rest) := fun p hp => by
      rcases List.mem_cons.mp hp with rfl | hp
      · exact N₂ _ (.head _)
      · rcases List.mem_cons.mp hp with rfl | hp
        · exact ⟨heI, Ne.symm hLI, hI₀⟩
        · exact N₂ _ (.tail _ hp)
    have hRI : ∀ p ∈ (I, oI) :: rest, p.1 ≠ C := fun p hp => by
      rcases List.mem_cons.mp hp with rfl | hp
      · exact Ne.symm hCI
      · exact hR p hp
    refine assign_Tuple_tuple hh ht rfl hes fun h₅ he => ?_
    have he' : ∀ b o, h₂.get? b = some o → h₅.get? b = some o := fun b o e => he b o (Nat.ne_of_lt (Heap.lt_size e)) e
    refine assignInOrder_cons (wpAny_assign_Name (storeX_C (F₂.keeps he') (NI.grown he') hc (UpdF.head hRI) d' (fun h₆ o₆ F₆ N₆ d₆ => ?_) hk hx))
    refine assignInOrder_cons (wpAny_assign_Name (storeX_L F₆ N₆ (fun h₃ F₃ N₃ => ?_) hk hx₂))
    refine assignInOrder_nil ?_
    refine wpAny_mono (turn i b kk t1 t2 I oI o₆ h₃ _ m' hzi F₃ hf' N₃ hRI d₆) (fun f s₄ hf => ?_) fun _ _ e => e.elim
    obtain ⟨hf, h₄, tk₄, m₄, o₄, rfl, F₄, hf₄, N₄, d₄⟩ := hf
    have fin : ∃ k, k < items.toArray.size + 1 - i ∧ ∃ i h tk m' o', ({ s1 with heap := h₄, toks := tk₄ } : Shared) = { s1 with heap := h, toks := tk } ∧ i ≤ items.toArray.size ∧ k = items.toArray.size + 1 - i ∧ (h.IsListIter I AL i ∧ h.IsList AL items.toArray) ∧ Fr h₀ L h m' ∧ FixOn fix m' ∧ News h₀ L h ((C, o') :: rest) ∧ ∃ v, o'.data = .cell v :=
      ⟨items.toArray.size + 1 - (i + 1), by omega, i + 1, h₄, tk₄, m₄, o₄, rfl, hlt, rfl, ⟨⟨oI, (N₄ (I, oI) (.tail _ (.head _))).1, hcI, hdI⟩, ⟨_, (N₄ _ (.tail _ (.tail _ hAL))).1, rfl, _, rfl⟩⟩, F₄, hf₄, fun p hp => by
        rcases List.mem_cons.mp hp with rfl | hp
        · exact N₄ _ (.head _)
        · exact N₄ _ (.tail _ (.tail _ hp)), d₄⟩
    rcases hf with rfl | rfl
    · exact fin
    · exact fin
  · obtain rfl : i = items.toArray.size := Nat.le_antisymm hi (Nat.not_lt.mp hlt)
    refine W.done _ _ _ hst fun h₂ tk₂ hk₂ => ?_
    refine wpAny_pure (done _ ⟨h₂, tk₂, m', o', rfl, fr_but F' hk₂ hLI hI₀, hf', news_but N' hk₂ fun p hp => ?_, v', d'⟩)
    rcases List.mem_cons.mp hp with rfl | hp
    · exact hCI
    · exact hoff p (.tail _ hp)
end
end Mine
namespace Mine
open PySem PySem.W PyProof.Rows PySem.Calls
set_option maxRecDepth 100000
set_option linter.all false
theorem build_ok : ∀ xs : List Int, (∀ n ∈ (build xs).ns, (1 ≤ n.kind ∧ n.kind ≤ 12) ∧ (1 ≤ n.ans ∧ n.ans ≤ 3) ∧ 0 ≤ n.deep ∧ n.deep ≤ 4) := by
  refine snoc_ind ?_ ?_
  · simp [build]
  · intro xs x ih n hn
    rw [build_snoc] at hn
    simp only [bstep, List.mem_append, List.mem_singleton] at hn
    rcases hn with hn | rfl
    · exact ih n hn
    · have h1 := fmod_range x (n := 12) (by decide)
      have h2 := fmod_range (x.fdiv 60) (n := 3) (by decide)
      have h3 := deepOf_range (build xs).path x
      refine ⟨⟨?_, ?_⟩, ⟨?_, ?_⟩, ?_, ?_⟩ <;> dsimp only <;> omega
theorem hit_pow {k : Nat} (hk : k < 12) {n : Node} (h1 : 1 ≤ n.kind) (h2 : n.kind ≤ 12) : hit (2 ^ k) n = bitAt (2 ^ k) n.kind := by
  obtain ⟨kd, dp, an⟩ := n
  dsimp only at h1 h2
  have : ∃ j : Nat, j < 12 ∧ kd = (j : Int) + 1 := ⟨(kd - 1).toNat, by omega, by omega⟩
  obtain ⟨j, hj, rfl⟩ := this
  have key : ∀ k : Nat, k < 12 → ∀ j : Nat, j < 12 → hit (2 ^ k) ⟨(j : Int) + 1, dp, an⟩ = bitAt (2 ^ k) ((j : Int) + 1) := by
    unfold hit bitAt
    dsimp only
    decide +kernel
  exact key k hk j hj
theorem hit_all {n : Node} (h1 : 1 ≤ n.kind) (h2 : n.kind ≤ 12) : hit 4294967295 n = bitAt 4095 n.kind := by
  obtain ⟨kd, dp, an⟩ := n
  dsimp only at h1 h2
  have : ∃ j : Nat, j < 12 ∧ kd = (j : Int) + 1 := ⟨(kd - 1).toNat, by omega, by omega⟩
  obtain ⟨j, hj, rfl⟩ := this
  have key : ∀ j : Nat, j < 12 → hit 4294967295 ⟨(j : Int) + 1, dp, an⟩ = bitAt 4095 ((j : Int) + 1) := by
    unfold hit bitAt
    dsimp only
    decide +kernel
  exact key j hj
theorem hit_any {d : Int} (hd : 0 ≤ d ∧ d < 4096) {n : Node} (h1 : 1 ≤ n.kind) (h2 : n.kind ≤ 12) : hit d n = bitAt d n.kind := by
  obtain ⟨kd, dp, an⟩ := n
  dsimp only at h1 h2
  have : ∃ j : Nat, j < 12 ∧ kd = (j : Int) + 1 := ⟨(kd - 1).toNat, by omega, by omega⟩
  obtain ⟨j, hj, rfl⟩ := this
  obtain ⟨m, rfl⟩ : ∃ m : Nat, d = m := ⟨d.toNat, by omega⟩
  have hm : m < 4096 := by omega
  have hs : shownInts.getD j 0 = ((2 ^ j : Nat) : Int) := by
    have key : ∀ j : Nat, j < 12 → shownInts.getD j 0 = ((2 ^ j : Nat) : Int) := by decide +kernel
    exact key j hj
  have hj1 : ((j : Int) + 1 - 1).toNat = j := by omega
  have e1 : Builtin.bitAnd (m : Int) ((2 ^ j : Nat) : Int) = ((m &&& 2 ^ j : Nat) : Int) := by
    unfold Builtin.bitAnd
    rw [decide_eq_true (Int.natCast_nonneg m), decide_eq_true (Int.natCast_nonneg (2 ^ j))]
    simp only [Int.toNat_natCast]
  have e2 : ((m : Int).fdiv (2 ^ j)).fmod 2 = ((m / 2 ^ j % 2 : Nat) : Int) := by
    rw [Int.fdiv_eq_ediv_of_nonneg _ (by exact_mod_cast Nat.zero_le (2 ^ j)), Int.fmod_eq_emod_of_nonneg _ (by decide)]
    push_cast
    rfl
  unfold hit bitAt
  dsimp only
  rw [hj1, hs, e1, e2]
  have hb : m.testBit j = decide (m / 2 ^ j % 2 = 1) := Nat.testBit_eq_decide_div_mod_eq
  by_cases h : m / 2 ^ j % 2 = 1
  · have hz : m &&& 2 ^ j ≠ 0 := fun e => by
      have h3 : (m &&& 2 ^ j).testBit j = true := by rw [Nat.testBit_and, hb, decide_eq_true h, Nat.testBit_two_pow_self]; rfl
      rw [e, Nat.zero_testBit] at h3; cases h3
    rw [h]
    simp [hz]
  · have h0 : m / 2 ^ j % 2 = 0 := by omega
    have hz : m &&& 2 ^ j = 0 := Nat.eq_of_testBit_eq fun i => by
      rw [Nat.testBit_and, Nat.zero_testBit, Nat.testBit_two_pow]
      by_cases q : j = i
      · subst q; rw [hb, decide_eq_false h]; rfl
      · rw [decide_eq_false q, Bool.and_false]
    rw [h0, hz]
    rfl
end Mine
namespace Mine
open PySem PySem.W PyProof.Rows PySem.Calls
set_option maxRecDepth 100000
set_option linter.all false
theorem rangeKs_getElem (n j : Nat) (h : j < n) : (rangeKs 0 n)[j]'(by rw [rangeKs_length]; exact h) = (j : Int) := by simp [rangeKs]
theorem rangeKs_succ (n : Nat) : rangeKs 0 (n + 1) = rangeKs 0 n ++ [(n : Int)] := by simp [rangeKs, List.range_succ]
theorem atP_nat {q : Node → Bool} {ns : List Node} {j : Nat} {n : Node} (h : ns[j]? = some n) : atP q ns (j : Int) = q n := by simp [atP, h]
/-- a place told first heads what is there -/
theorem first_head {p q : Node → Bool} {ns : List Node} {i : Nat} (h : FirstIs p ns i) (hpq : ∀ n ∈ ns, q n = p n) :
    ((rangeKs 0 ns.length).filter (atP q ns) ++ [(ns.length : Int)])[0]? = some (i : Int) := by
  obtain ⟨hi, h1, h2⟩ := h
  obtain ⟨k, hk⟩ : ∃ k, ns.length = i + k := ⟨ns.length - i, by omega⟩
  have e : rangeKs 0 ns.length = rangeKs 0 i ++ (List.range k).map (fun j => ((i + j : Nat) : Int)) := by
    rw [hk]
    simp [rangeKs, List.range_add, List.map_map, Function.comp_def]
  have z : (rangeKs 0 i).filter (atP q ns) = [] := by
    rw [List.filter_eq_nil_iff]
    intro a ha
    have hm := mem_rangeKs ha
    obtain ⟨j, rfl⟩ : ∃ j : Nat, a = j := ⟨a.toNat, by omega⟩
    have hj : j < ns.length := by omega
    rw [atP_nat (List.getElem?_eq_getElem hj), hpq _ (List.getElem_mem hj), h1 j (by omega) _ (List.getElem?_eq_getElem hj)]
    simp
  rw [e, List.filter_append, z, List.nil_append]
  cases k with
  | zero => simp [hk]
  | succ k =>
    have hil : i < ns.length := by omega
    have y : atP q ns (i : Int) = true := by
      rw [atP_nat (List.getElem?_eq_getElem hil), hpq _ (List.getElem_mem hil), h2 _ (List.getElem?_eq_getElem hil)]
    rw [List.range_succ_eq_map, List.map_cons, List.filter_cons_of_pos (by simpa using y)]
    simp
end Mine
namespace Mine
open PySem PySem.W PyProof.Rows PySem.Calls
set_option maxRecDepth 100000
set_option linter.all false
def shutGo (p : Node → Bool) : List Node → Int → Int
  | [], sh => sh
  | n :: r, sh => if sh < n.deep then shutGo p r sh else if p n = false then shutGo p r 5 else if n.ans = 1 then shutGo p r 5 else if n.ans = 2 then shutGo p r n.deep else shutGo p r 5
theorem told_snoc (p : Node → Bool) (n : Node) : ∀ (ns : List Node) (i : Nat) (sh : Int), toldGo p (ns ++ [n]) i sh = toldGo p ns i sh ++ toldGo p [n] (i + ns.length) (shutGo p ns sh) := by
  intro ns
  induction ns with
  | nil => intro i sh; simp [toldGo, shutGo]
  | cons m r ih =>
    intro i sh
    have e : i + (m :: r).length = i + 1 + r.length := by simp only [List.length_cons]; omega
    simp only [List.cons_append, toldGo, shutGo, e]
    split
    · rw [ih]; simp only [toldGo]
    · split
      · rw [ih]; simp only [toldGo]
      · split
        · rw [ih]; simp only [toldGo, List.cons_append]
        · split
          · rw [ih]; simp only [toldGo]
          · rw [ih]; simp only [toldGo]
theorem shut_snoc (p : Node → Bool) (n : Node) : ∀ (ns : List Node) (sh : Int), shutGo p (ns ++ [n]) sh = shutGo p [n] (shutGo p ns sh) := by
  intro ns
  induction ns with
  | nil => intro sh; rfl
  | cons m r ih =>
    intro sh
    simp only [List.cons_append, shutGo]
    split
    · rw [ih]; simp only [shutGo]
    · split
      · rw [ih]; simp only [shutGo]
      · split
        · rw [ih]; simp only [shutGo]
        · split
          · rw [ih]; simp only [shutGo]
          · rw [ih]; simp only [shutGo]
theorem told_congr {p q : Node → Bool} : ∀ {ns : List Node} (h : ∀ n ∈ ns, p n = q n) (i : Nat) (sh : Int), toldGo p ns i sh = toldGo q ns i sh := by
  intro ns
  induction ns with
  | nil => intros; rfl
  | cons m r ih =>
    intro h i sh
    simp only [toldGo, h m (.head _), ih fun n hn => h n (.tail _ hn)]
/-- no place above is refused -/
def dueP (b : Int) (ns : List Node) (ab : List (List Int)) (k : Int) : Bool := match ab[k.toNat]? with
  | some is => (is.filter (atP (thereP b [2]) ns)).isEmpty
  | none => false
theorem atP_snoc {q : Node → Bool} {ns : List Node} {n : Node} {k : Int} (h : 0 ≤ k ∧ k < (ns.length : Int)) : atP q (ns ++ [n]) k = atP q ns k := by
  unfold atP
  rw [List.getElem?_append_left (by omega)]
theorem atP_last {q : Node → Bool} {ns : List Node} {n : Node} : atP q (ns ++ [n]) (ns.length : Int) = q n := atP_nat (by simp)
theorem filter_snoc {q : Node → Bool} {ns : List Node} {n : Node} {is : List Int} (h : ∀ a ∈ is, 0 ≤ a ∧ a < (ns.length : Int)) : is.filter (atP q (ns ++ [n])) = is.filter (atP q ns) :=
  List.filter_congr fun a ha => atP_snoc (h a ha)
structure TInv (b : Int) (bs : BS) : Prop where
  len : bs.ab.length = bs.ns.length
  told : toldGo (fun n => bitAt b n.kind) bs.ns 0 5 = ((rangeKs 0 bs.ns.length).filter (atP (thereP b [1]) bs.ns)).filter (dueP b bs.ns bs.ab)
  path : ∀ a ∈ bs.path, 0 ≤ a ∧ a < (bs.ns.length : Int)
  plen : bs.path.length ≤ 5
  ab : ∀ is ∈ bs.ab, is.length ≤ 5 ∧ ∀ a ∈ is, 0 ≤ a ∧ a < (bs.ns.length : Int)
  lo : 0 ≤ shutGo (fun n => bitAt b n.kind) bs.ns 5 ∧ shutGo (fun n => bitAt b n.kind) bs.ns 5 ≤ 5
  no : ∀ (j : Nat) a, bs.path[j]? = some a → atP (thereP b [2]) bs.ns a = true → shutGo (fun n => bitAt b n.kind) bs.ns 5 ≤ j
  yes : shutGo (fun n => bitAt b n.kind) bs.ns 5 < 5 → ∃ a, bs.path[(shutGo (fun n => bitAt b n.kind) bs.ns 5).toNat]? = some a ∧ atP (thereP b [2]) bs.ns a = true
theorem tinv_step {b : Int} {bs : BS} (T : TInv b bs) (x : Int) : TInv b (bstep bs x) := by
  obtain ⟨len, told, path, plen, ab, lo, no, yes⟩ := T
  have hd := deepOf_range bs.path x
  have ha3 := fmod_range (x.fdiv 60) (n := 3) (by decide)
  obtain ⟨d, hd9⟩ : ∃ d : Nat, deepOf bs.path x = d := ⟨(deepOf bs.path x).toNat, by omega⟩
  generalize hn : (⟨1 + x.fmod 12, deepOf bs.path x, 1 + (x.fdiv 60).fmod 3⟩ : Node) = n at *
  have hstep : bstep bs x = ⟨bs.ns ++ [n], bs.ab ++ [bs.path.take d], bs.path.take d ++ [(bs.ns.length : Int)]⟩ := by
    unfold bstep
    rw [hn, hd9]
    simp
  have hnd : n.deep = d := by rw [← hn]; exact hd9
  have hna : 1 ≤ n.ans ∧ n.ans ≤ 3 := by rw [← hn]; dsimp only; omega
  rw [hstep]
  clear hn hstep
  generalize hsh : shutGo (fun n => bitAt b n.kind) bs.ns 5 = sh at *
  have hdl : d ≤ bs.path.length := by omega
  have hd5 : d ≤ 4 := by omega
  have hpt : ∀ a ∈ bs.path.take d, 0 ≤ a ∧ a < (bs.ns.length : Int) := fun a ha => path a (List.mem_of_mem_take ha)
  have hr2 : thereP b [2] n = (bitAt b n.kind && decide (n.ans = 2)) := by
    by_cases h : n.ans = 2
    · simp [thereP, h]
    · have h' : ¬ ((2 : Int) = n.ans) := fun e => h e.symm
      simp [thereP, h, h']
  have hr1 : thereP b [1] n = (bitAt b n.kind && decide (n.ans = 1)) := by
    by_cases h : n.ans = 1
    · simp [thereP, h]
    · have h' : ¬ ((1 : Int) = n.ans) := fun e => h e.symm
      simp [thereP, h, h']
  have hq : ∀ (j : Nat) a, (bs.path.take d ++ [(bs.ns.length : Int)])[j]? = some a → (j < d ∧ bs.path[j]? = some a) ∨ (j = d ∧ a = (bs.ns.length : Int)) := by
    intro j a e
    have ltk : (bs.path.take d).length = d := by rw [List.length_take]; omega
    by_cases hj : j < d
    · rw [List.getElem?_append_left (by omega), List.getElem?_take, if_pos hj] at e
      exact .inl ⟨hj, e⟩
    · rw [List.getElem?_append_right (by omega), ltk] at e
      by_cases hj2 : j = d
      · subst hj2; simp at e; exact .inr ⟨rfl, e.symm⟩
      · rw [List.getElem?_eq_none (by simp; omega)] at e; cases e
  have hpd : (bs.path.take d ++ [(bs.ns.length : Int)])[d]? = some (bs.ns.length : Int) := by
    have ltk : (bs.path.take d).length = d := by rw [List.length_take]; omega
    rw [List.getElem?_append_right (by omega), ltk]; simp
  -- the last place's due
  have hdue : dueP b (bs.ns ++ [n]) (bs.ab ++ [bs.path.take d]) (bs.ns.length : Int) = decide ((d : Int) ≤ sh) := by
    have e : (bs.ab ++ [bs.path.take d])[(bs.ns.length : Int).toNat]? = some (bs.path.take d) := by
      rw [Int.toNat_natCast, ← len]; simp
    unfold dueP
    rw [e]
    dsimp only
    rw [filter_snoc hpt]
    by_cases hc : (d : Int) ≤ sh
    · rw [decide_eq_true hc, List.isEmpty_iff, List.filter_eq_nil_iff]
      intro a ha hr
      obtain ⟨j, hj⟩ := List.getElem?_of_mem ha
      rw [List.getElem?_take] at hj
      split at hj
      · have := no j a hj hr; omega
      · cases hj
    · rw [decide_eq_false hc]
      obtain ⟨a, ea, hra⟩ := yes (by omega)
      have hm : a ∈ (bs.path.take d).filter (atP (thereP b [2]) bs.ns) := by
        rw [List.mem_filter]
        refine ⟨?_, hra⟩
        have e2 : (bs.path.take d)[sh.toNat]? = some a := by rw [List.getElem?_take, if_pos (by omega)]; exact ea
        exact List.mem_of_getElem? e2
      cases hz : (bs.path.take d).filter (atP (thereP b [2]) bs.ns) with
      | nil => rw [hz] at hm; cases hm
      | cons a l => rfl
  have hold : ∀ k ∈ rangeKs 0 bs.ns.length, dueP b (bs.ns ++ [n]) (bs.ab ++ [bs.path.take d]) k = dueP b bs.ns bs.ab k := by
    intro k hk
    have hk := mem_rangeKs hk
    unfold dueP
    rw [List.getElem?_append_left (by omega)]
    cases e : bs.ab[k.toNat]? with
    | none => rfl
    | some is =>
      dsimp only
      rw [filter_snoc (ab is (List.mem_of_getElem? e)).2]
  have hshut : shutGo (fun n => bitAt b n.kind) (bs.ns ++ [n]) 5 = if sh < (d : Int) then sh else if bitAt b n.kind = true ∧ n.ans = 2 then (d : Int) else 5 := by
    rw [shut_snoc, hsh]
    simp only [shutGo, hnd]
    split
    · rfl
    · by_cases h1 : bitAt b n.kind = true
      · simp only [h1]
        by_cases h2 : n.ans = 2
        · simp [h2]
        · simp [h2]
      · simp only [Bool.not_eq_true] at h1
        simp [h1]
  refine ⟨?_, ?_, ?_, ?_, ?_, ?_, ?_, ?_⟩
  · simp [len]
  · dsimp only
    rw [told_snoc, told, hsh, List.length_append, List.length_singleton, rangeKs_succ, List.filter_append, List.filter_append]
    congr 1
    · rw [List.filter_congr (q := atP (thereP b [1]) bs.ns) fun a ha => atP_snoc (by have := mem_rangeKs ha; omega)]
      exact (List.filter_congr fun a ha => hold a (List.mem_filter.mp ha).1).symm
    · simp only [toldGo, hnd, Nat.zero_add]
      rw [List.filter_cons, atP_last, hr1]
      by_cases hc : (d : Int) ≤ sh
      · rw [if_neg (by omega)]
        by_cases h1 : bitAt b n.kind = true
        · by_cases h2 : n.ans = 1
          · simp [h1, h2, List.filter_cons, hdue, hc]
          · simp [h1, h2]
        · simp only [Bool.not_eq_true] at h1
          simp [h1]
      · rw [if_pos (by omega)]
        split
        · simp [List.filter_cons, hdue, hc]
        · simp
  · intro a ha
    dsimp only at ha ⊢
    rw [List.length_append, List.length_singleton]
    rcases List.mem_append.mp ha with ha | ha
    · have := hpt a ha; omega
    · rw [List.mem_singleton.mp ha]; omega
  · dsimp only
    rw [List.length_append, List.length_take, List.length_singleton]; omega
  · intro is hi
    dsimp only at hi ⊢
    rw [List.length_append, List.length_singleton]
    rcases List.mem_append.mp hi with hi | hi
    · obtain ⟨h1, h2⟩ := ab is hi
      exact ⟨h1, fun a ha => by have := h2 a ha; omega⟩
    · rw [List.mem_singleton.mp hi]
      exact ⟨by rw [List.length_take]; omega, fun a ha => by have := hpt a ha; omega⟩
  · dsimp only
    rw [hshut]
    split
    · exact lo
    · split <;> omega
  · intro j a e hr
    dsimp only at e hr ⊢
    rw [hshut]
    rcases hq j a e with ⟨hj, e'⟩ | ⟨rfl, rfl⟩
    · have hin := path a (List.mem_of_getElem? e')
      rw [atP_snoc hin] at hr
      have := no j a e' hr
      rw [if_pos (by omega)]
      exact this
    · rw [atP_last, hr2] at hr
      simp only [Bool.and_eq_true, decide_eq_true_eq] at hr
      split
      · omega
      · first | exact Int.le_refl _ | (rw [if_pos hr]; exact Int.le_refl _)
  · dsimp only
    rw [hshut]
    split
    · rename_i hlt
      intro h5
      obtain ⟨a, ea, hra⟩ := yes h5
      refine ⟨a, ?_, ?_⟩
      · have ltk : (bs.path.take d).length = d := by rw [List.length_take]; omega
        rw [List.getElem?_append_left (by omega), List.getElem?_take, if_pos (by omega)]; exact ea
      · rw [atP_snoc (path a (List.mem_of_getElem? ea))]; exact hra
    · split
      · rename_i hb
        intro _
        refine ⟨_, by rw [Int.toNat_natCast]; exact hpd, ?_⟩
        rw [atP_last, hr2, hb.1, hb.2]; rfl
      · intro h; omega
theorem tinv (b : Int) : ∀ xs, TInv b (build xs) :=
  snoc_ind ⟨rfl, rfl, fun _ h => (nomatch h), by simp [build], fun _ h => (nomatch h), by simp [build, shutGo], fun j a e => by simp [build] at e, by simp [build, shutGo]⟩ fun xs x T => by
    rw [build_snoc]; exact tinv_step T x
end Mine
namespace Mine
open PySem PySem.W PyProof.Rows PySem.Calls
set_option maxRecDepth 100000
set_option linter.all false
theorem hit_pair {dr : Int} (hd : 0 ≤ dr ∧ dr < 4096) {i : Nat} {b k : Int} (h : (pows 12 ++ [(dr, dr)] ++ [(4095, 4294967295)])[i]? = some (b, k)) {n : Node} (h1 : 1 ≤ n.kind) (h2 : n.kind ≤ 12) : hit k n = bitAt b n.kind := by
  have hm := List.mem_of_getElem? h
  simp only [List.mem_append, List.mem_singleton] at hm
  rcases hm with (hm | hm) | hm
  · obtain ⟨j, hj, e⟩ := List.mem_map.mp hm
    have hj := List.mem_range.mp hj
    obtain ⟨rfl, rfl⟩ := Prod.mk.inj e
    exact hit_pow hj h1 h2
  · obtain ⟨rfl, rfl⟩ := Prod.mk.inj hm
    exact hit_any hd h1 h2
  · obtain ⟨rfl, rfl⟩ := Prod.mk.inj hm
    exact hit_all h1 h2
theorem there_all {b k : Int} {n : Node} (hh : hit k n = bitAt b n.kind) (ha : 1 ≤ n.ans ∧ n.ans ≤ 3) : thereP b [1, 2, 3] n = hit k n := by
  have : n.ans = 1 ∨ n.ans = 2 ∨ n.ans = 3 := by omega
  rw [hh]
  rcases this with h | h | h <;> simp [thereP, h]
theorem told_due {b k : Int} {xs : List Int} (hh : ∀ n ∈ (build xs).ns, hit k n = bitAt b n.kind) :
    toldGo (hit k) (build xs).ns 0 5 = ((rangeKs 0 (build xs).ns.length).filter (atP (thereP b [1]) (build xs).ns)).filter (dueP b (build xs).ns (build xs).ab) :=
  (told_congr hh 0 5).trans (tinv b xs).told
theorem first_getD {b k : Int} {ns : List Node} {i : Nat} (fst : FirstIs (hit k) ns i) (hh : ∀ n ∈ ns, hit k n = bitAt b n.kind) (ha : ∀ n ∈ ns, 1 ≤ n.ans ∧ n.ans ≤ 3) :
    (i : Int) = ((rangeKs 0 ns.length).filter (atP (thereP b [1, 2, 3]) ns) ++ [(ns.length : Int)]).getD (Int.toNat 0) 0 := by
  have := first_head (q := thereP b [1, 2, 3]) fst fun n hn => there_all (hh n hn) (ha n hn)
  rw [List.getD_eq_getElem?_getD, show Int.toNat 0 = 0 from rfl, this]
  rfl
end Mine
namespace Mine
open PySem PySem.W PyProof.Rows PySem.Calls PySem.Spec
set_option maxRecDepth 100000
set_option linter.all false
abbrev nodeD (n : Node) : PyData := .list ([n.kind, n.deep, n.ans].map PyData.int)
theorem reads_nodes {h : Heap} : ∀ {vs : List Value} {ns : List Node}, Rel2 (NodeAt h) vs ns → ∃ as, ReadsAll h vs (ns.map nodeD) as
  | _, _, .nil => ⟨[], .nil⟩
  | _, _, .cons a r => by
    obtain ⟨as, ha⟩ := reads_nodes r
    obtain ⟨b, t1, t2, t3, rfl, hb⟩ := a
    exact ⟨_, .cons (reads_newData (ys := [.int _ t1, .int _ t2, .int _ t3]) hb (ke_carried (.cons _ _ (.cons _ _ (.cons _ _ .nil))))) ha⟩
theorem canLay_nodes : ∀ ns : List Node, PyData.canLayAll0 (ns.map nodeD) = true
  | [] => rfl
  | n :: r => by
    have h := canLay_nodes r
    simp only [List.map_cons, PyData.canLayAll0, h, Bool.and_true]
    simp [PyData.canLay0, PyData.canLayAll0]
theorem depth_nodes : ∀ ns : List Node, PyData.depthAll (ns.map nodeD) ≤ 1
  | [] => by simp [PyData.depthAll]
  | n :: r => by
    have h := depth_nodes r
    simp only [List.map_cons, PyData.depthAll]
    have h1 : PyData.depth (nodeD n) ≤ 1 := by
      have := ke_depthAll [n.kind, n.deep, n.ans]
      simp [PyData.depth, PyData.depthAll]
    omega
theorem shaped_nodes (ns : List Node) : SeqAt.shaped (.list (ns.map nodeD)) = true := by
  have h1 := canLay_nodes ns
  have h2 := depth_nodes ns
  unfold SeqAt.shaped
  rw [Bool.and_eq_true, decide_eq_true_eq]
  refine ⟨by simpa [PyData.canLay0] using h1, ?_⟩
  simp only [PyData.depth]
  omega
section
variable {prog : Program} {w : World} {A : Around} {E : Value → Shared → Prop} {s : Shared} {a b : Addr} {xs ys : List Value} {ns : List Node} {Q : Value → Shared → Prop}
theorem eq_nodes (ha : s.heap.IsList a xs.toArray) (hb : s.heap.IsList b ys.toArray) (hx : Rel2 (NodeAt s.heap) xs ns) (hy : Rel2 (NodeAt s.heap) ys ns) (hu : A.units + 64 < cLine) (h : Q (.bool true) s) :
    wpAny (model prog w) A (compareOp .Eq (.ref a) (.ref b)) Q E s := by
  obtain ⟨as, hra⟩ := reads_nodes hx
  obtain ⟨bs, hrb⟩ := reads_nodes hy
  obtain ⟨o, ho, hc, n, hd⟩ := ha
  obtain ⟨o', ho', hc', n', hd'⟩ := hb
  refine eq_dataH_same (Reads.list ho hc hd (by simpa using hra)) (Reads.list ho' hc' hd' (by simpa using hrb)) (shaped_nodes ns) (shaped_nodes ns) hu
    (SeqAt.noMix_of_shape (.list (.list .int)) rfl _ _ (list_map_has fun n => list_map_has fun _ => rfl) (list_map_has fun n => list_map_has fun _ => rfl)) ?_
  rw [PySem.Spec.same_self]
  exact h
end
end Mine
namespace Mine
open PySem PySem.W PyProof.Rows PySem.Calls PyProof.Rows.LCg
set_option maxRecDepth 100000
set_option linter.all false
/-- a mark: here the walk stops where I say -/
structure InTurn : Prop where
  mark :: (one : True)
abbrev shVals : List Value := [Value.int 1 209, Value.int 2 211, Value.int 4 213, Value.int 8 215, Value.int 16 217, Value.int 32 219, Value.int 64 221, Value.int 128 223, Value.int 256 225, Value.int 512 227, Value.int 1024 229, Value.int 2048 231]
/-- what the building loop leaves as it is -/
abbrev cstOf (xL pA shA L : Addr) (ws : List Value) (o1 oA oR : Obj) : List (Addr × Obj) :=
  [(xL, listOf ws.toArray 0), (pA, listOf ([] : List Value).toArray 0), (shA, listOf shVals.toArray 0), (L + 1 + 1 + 1, o1), (L + 1 + 1, oA), (L + 1, oR)]
/-- a mark: at the law's end -/
structure InEnd : Prop where
  mark :: (one : True)
/-- a mark: in the test of the due places -/
structure InTest : Prop where
  mark :: (one : True)
/-- a mark: in the loop over the pairs -/
structure InLoop : Prop where
  mark :: (one : True)
theorem append_at9 {prog : Program} {w : World} {A : Around} {E : Value → Shared → Prop} {s : Shared} {h₀ : Heap} {L D : Addr} {m : Str → Option Value} {pre post : List (Addr × Obj)} {vs : List Value} {n : Nat} {x : Value} {Q : Value → Shared → Prop}
    (F : Fr h₀ L s.heap m) (N : News h₀ L s.heap (pre ++ (D, listOf vs.toArray n) :: post)) (h1 : ∀ p ∈ pre, p.1 ≠ D) (h2 : ∀ p ∈ post, p.1 ≠ D) (hsz : vs.length ≤ 1000)
    (h : ∀ h', Fr h₀ L h' m → News h₀ L h' (pre ++ (D, listOf (vs ++ [x]).toArray (n + 1)) :: post) → Q .none { s with heap := h' }) : wpAny (model prog w) A (call (.builtin "list.append") [.ref D, x]) Q E s := by
  have z := N (D, listOf vs.toArray n) (List.mem_append.mpr (.inr (.head _)))
  refine append_at (hsz := by rw [List.size_toArray]; exact Nat.le_trans hsz (by rw [sizeLine_eq]; decide)) z.1 fun h' hs ho' => h h' (F.change hs z.2.1 z.2.2) (news_set N h1 h2 hs ?_)
  rw [ho']
  simp
/-- the building loop's state: the row's and the above's values and epochs, the path's place, values, epoch; what is built -/
structure LS where
  rvs : List Value
  rep : Nat
  avs : List Value
  aep : Nat
  pA : Addr
  pvs : List Value
  pn : Nat
  b : BS
theorem warm6 : PySem.Challenge.rw_kn0096_01 = PySem.Challenge.rw_kn0096_01 ∧ hd.heap_39 = hd.heap_39 := by
  k_fill
  exact ⟨rfl, rfl⟩
section
variable {prog : Program} {w : World} {s : Shared} {mean : ExcName → Option Value} {mg mb : Str → Option Value}
local macro_rules | `(tactic| walk_at "no such key 8") => `(tactic| fail "none")
local macro_rules | `(tactic| walk_at "no such key 7") => `(tactic| fail "none")
local macro_rules | `(tactic| walk_at "no such key 6") => `(tactic| fail "none")
local macro_rules | `(tactic| walk_at "no such key 5") => `(tactic| fail "none")
local macro_rules | `(tactic| walk_at "no such key 4") => `(tactic| fail "none")
local macro_rules | `(tactic| walk_at "no such key 3") => `(tactic| fail "none")
local macro_rules | `(tactic| walk_at "no such key 2") => `(tactic| fail "none")
local macro_rules | `(tactic| walk_at "no such key 1") => `(tactic| fail "none")
local macro_rules | `(tactic| walk_at "no such key 0") => `(tactic| fail "none")
local macro_rules | `(tactic| walk_at "exec For Name BinOp cons nil") => `(tactic| refine hold ?_)
local macro_rules | `(tactic| walk_at "exec Assign cons ListComp") => `(tactic| refine hold ?_)
local macro_rules | `(tactic| walk_at "pyIter ref") => `(tactic| refine hold ?_)
local macro_rules | `(tactic| walk_at "call builtin:len") => `(tactic| (with_reducible rename InTurn => mk9; refine hold ?_))
local macro_rules | `(tactic| walk_at "subscriptTail") => `(tactic| (with_reducible rename InTurn => mk9; refine hold ?_))
local macro_rules | `(tactic| walk_at "binaryOp Add ref ref") => `(tactic| (with_reducible rename InTurn => mk9; refine hold ?_))
local macro_rules | `(tactic| walk_at "call builtin:list.append") => `(tactic| (with_reducible rename InTurn => mk9; refine hold ?_))
local macro_rules | `(tactic| walk_at "eval Name") => `(tactic| (with_reducible rename InTurn => mk9; (with_reducible show wpAny _ _ (eval _ (compEnvC _ _ _ _)) _ _ _); refine hold ?_))
local macro_rules | `(tactic| walk_at "call type:list") => `(tactic| (with_reducible rename InTurn => mk9; refine hold ?_))
local macro_rules | `(tactic| walk_at "call type:range") => `(tactic| (with_reducible rename InTurn => mk9; refine hold ?_))
local macro_rules | `(tactic| walk_at "eval ListComp") => `(tactic| (with_reducible rename InTurn => mk9; refine hold ?_))
local macro_rules | `(tactic| walk_at "binaryOp LShift int int") => `(tactic| (with_reducible rename InTurn => mk9; refine hold ?_))
local macro_rules | `(tactic| walk_at "compareOp Eq ref ref") => `(tactic| (with_reducible rename InEnd => mk9; refine hold ?_))
local macro_rules | `(tactic| walk_at "newTuple") => `(tactic| (with_reducible rename InTest => mk9; refine hold ?_))
local macro_rules | `(tactic| walk_at "newList") => `(tactic| (with_reducible rename InTest => mk9; refine hold ?_))
local macro_rules | `(tactic| walk_at "call ref") => `(tactic| (with_reducible rename InLoop => mk9; refine hold ?_))
set_option maxHeartbeats 8000000 in
theorem law_spec (XB : (hd.heap_39 w.params).In s.heap) (TB : Top hd.view_39 (looseW hd.view_39 [Str.ofString "NodeFilter"]) mean mg mb s.heap)
    {sA : Addr} {svs : List Value} {script : List Int} (hl : s.heap.IsList sA svs.toArray) (hI : IntsAre svs script) (hlen : script.length ≤ 63) :
    codeAny (model prog w) (AR 301 [] (some []) 4) (.call (.ref 66) ⟨[.ref sA], []⟩) (fun r s' => r = .ok (.ret (.bool true)) ∧ Keeps s s') s := by
  w_top off
  have B : Below (AR 301 [] (some []) 4) s.heap [] s.heap := below_caller _
  refine call_cells TB.nolimit (XB 66 _ (by k_is)) rfl (codeRec_of XB (by k_is)) (by decide) (BindsTo.of_eq rfl) rfl (by decide +kernel) (fun h₁ tk cells F N Y => ?_)
  have hY := CellsAre.three Y
  obtain ⟨o1, o2, o3, hE, d1, d2, d3⟩ := hY
  subst hE
  clear Y
  replace d1 : o1.data = .cell none := d1
  replace d2 : o2.data = .cell none := d2
  replace d3 : o3.data = .cell none := d3
  refine wpAny_noRaise ?_
  try k_fold
  k_steps
  trace "HELD"
  unfold Hold
  trace "UNF"
  with_reducible refine For_invV s.heap ?a ?b ?c ?d ?e
  case a => exact rfl
  trace "a"
  case b => exact rfl
  trace "b"
  case d => intro _; exact rfl
  trace "d"
  case e => exact PassesOwn.never
  trace "e"
  k_steps
  rename_i shA ha l1a hb tka rA hc l1b aA hd_ l1c pA he l1d tA hf l1e hg1 hg2 oR dR hg3 oA dA hg4 yA hh1 l1f zA zws hh2 hIz hCz hLz l1g xL ws hX FX NX hIX l1h
  have hxl : ([8, 141, 12, 85, 38, 144, 39, 100, 53, 18, 82, 31, 155, 14] ++ List.take 36 script).length ≤ 50 := by simp; omega
  generalize hxs : ([8, 141, 12, 85, 38, 144, 39, 100, 53, 18, 82, 31, 155, 14] ++ List.take 36 script : List Int) = xs at hIX hxl
  replace FX : Fr s.heap s.heap.objs.size hX (fun y => if y = Str.ofString "path" then some (.ref pA) else if y = Str.ofString "shown" then some (.ref shA) else if y = Str.ofString "script" then some (.ref sA) else none) := FX
  generalize hL : s.heap.objs.size = L at *
  have NX2 : News s.heap L hX ([(rA, listOf ([] : List Value).toArray 0), (aA, listOf ([] : List Value).toArray 0)] ++ (cstOf xL pA shA L ws o1 oA oR ++ [])) := by
    intro p hp
    simp only [List.cons_append, List.nil_append, List.append_nil] at hp
    refine NX p ?_
    simp only [List.mem_cons, List.not_mem_nil, or_false] at hp ⊢
    rcases hp with h | h | h | h | h | h | h | h <;> simp [h]
  refine kd_listI (l := xL) (vs := ws) (ns := xs) (nn := 0) (fun c : LS => [(rA, listOf c.rvs.toArray c.rep), (aA, listOf c.avs.toArray c.aep)])
    (cstOf xL pA shA L ws o1 oA oR)
    (fun c => [(Str.ofString "path", .ref c.pA)]) (fun l c => Rel2 (NodeIn l) c.rvs c.b.ns ∧ Rel2 (AboveIn l) c.avs c.b.ab ∧ (c.pA, listOf c.pvs.toArray c.pn) ∈ l ∧ IntsAre c.pvs c.b.path) [Str.ofString "deep"]
    (fun pre c => c.b = build pre) [rA, aA, xL, pA, shA, L + 1 + 1 + 1, L + 1 + 1, L + 1] ⟨[], 0, [], 0, pA, [], 0, ⟨[], [], []⟩⟩ rfl (.head _) hIX FX NX2 (fun _ h => h) (fun _ => rfl) ⟨.nil, .nil, .tail _ (.head _), .nil⟩ (fun p hp => ?_) rfl ?turn ?done
  · rw [List.mem_singleton.mp hp]; rfl
  case turn =>
    rintro ⟨rvs, rep, avs, aep, pB, pvs, pn, bs⟩ tl pre post x t u' h' tk' own hxe hxm hsep hoff ⟨hfr, hfa, hfp, hfi⟩ hP F3 N3
    dsimp only at hfr hfa hfp hfi hP F3 N3
    have hpl : pre.length < 50 := by rw [hxe] at hxl; simp at hxl; omega
    have hbl := build_len pre
    rw [← hP] at hbl
    have mk : InTurn := ⟨trivial⟩
    try k_fold
    k_steps
    unfold Hold
    have hup : ∀ p ∈ cstOf xL pA shA L ws o1 oA oR ++ tl,
        p ∈ cstOf xL pA shA L ws o1 oA oR ++ (tl ++ own) := fun p hp => by
      rcases List.mem_append.mp hp with h | h
      · exact List.mem_append_left _ h
      · exact List.mem_append_right _ (List.mem_append_left _ h)
    have hpz : pvs.toArray.size = bs.path.length := by simpa using hfi.length
    rename Fr _ _ _ _ => F4
    rename News _ _ _ _ => N4
    refine len_list ⟨_, (N4 _ (List.mem_append_right _ (hup _ hfp))).1, rfl, _, rfl⟩ (by rw [hpz]; omega) ?_
    rw [hpz]
    k_steps
    unfold Hold
    have hRc : ∀ p ∈ cstOf xL pA shA L ws o1 oA oR, p.1 ≠ rA ∧ p.1 ≠ aA := by
      intro p hp
      simp only [List.mem_cons, List.not_mem_nil, or_false] at hp
      rcases hp with rfl | rfl | rfl | rfl | rfl | rfl <;> exact ⟨neN (by dsimp only; omega), neN (by dsimp only; omega)⟩
    have hRo : ∀ p ∈ cstOf xL pA shA L ws o1 oA oR ++ (tl ++ own), p.1 ≠ rA ∧ p.1 ≠ aA := fun p hp => by
      rcases List.mem_append.mp hp with h | h
      · exact hRc p h
      · exact ⟨hoff p h _ (.head _), hoff p h _ (.tail _ (.head _))⟩
    have hdr := deepOf_range bs.path x
    have hrl : rvs.length ≤ 1000 := by rw [hfr.length]; omega
    have hal : avs.length ≤ 1000 := by rw [hfa.length]; omega
    rename Fr _ _ _ _ => F5
    rename News _ _ _ _ => N5
    rename ∀ p, p ∈ _ → _ < _ => l5
    rename_i nA nH
    obtain ⟨t1, t2, t3, N5'⟩ : ∃ t1 t2 t3, News s.heap L nH ((nA, listOf ([.int (1 + x.fmod 12) t1, .int (deepOf bs.path x) t2, .int (1 + (x.fdiv 60).fmod 3) t3] : List Value).toArray 0) :: ([(rA, listOf rvs.toArray rep), (aA, listOf avs.toArray aep)] ++ (cstOf xL pA shA L ws o1 oA oR ++ (tl ++ own)))) := ⟨_, _, _, N5⟩
    clear N5
    refine append_at9 (pre := [(nA, listOf ([.int (1 + x.fmod 12) t1, .int (deepOf bs.path x) t2, .int (1 + (x.fdiv 60).fmod 3) t3] : List Value).toArray 0)]) (post := (aA, listOf avs.toArray aep) :: (cstOf xL pA shA L ws o1 oA oR ++ (tl ++ own))) F5 N5' (fun p hp => ?_) (fun p hp => ?_) hrl ?_
    · rw [List.mem_singleton.mp hp]
      exact Nat.ne_of_gt (l5 _ List.mem_cons_self)
    · rcases List.mem_cons.mp hp with rfl | hp
      · exact neN (by dsimp only; omega)
      · exact (hRo p hp).1
    intro h6 F6 N6
    clear F5 N5'
    k_steps
    unfold Hold
    have hdp : IntsAre (slicePick pvs.toArray none (some (deepOf bs.path x)) none).toList (bs.path.take (deepOf bs.path x).toNat) := kmk_upto hfi hdr.1
    have hdl : (bs.path.take (deepOf bs.path x).toNat).length ≤ 4 := by rw [List.length_take]; omega
    have hpz2 : pvs.toArray.size ≤ sizeLine := by rw [hpz]; exact Nat.le_trans (show bs.path.length ≤ 1000 by omega) (by rw [sizeLine_eq]; decide)
    refine kmk_slice_ints F6 N6 ⟨_, (N6 _ (List.mem_append_right _ (.tail _ (.tail _ (hup _ hfp))))).1, rfl, _, rfl⟩ .none (.int _ _) hfi hdp rfl ?_ (by with_unfolding_all rfl) (fun _ => rfl) hpz2
    intro D2 ws2 h7 F7 N7 l7 hI2 _ _
    k_steps
    unfold Hold
    refine append_at9 (pre := [(D2, listOf ws2.toArray 0), (nA, listOf ([.int (1 + x.fmod 12) t1, .int (deepOf bs.path x) t2, .int (1 + (x.fdiv 60).fmod 3) t3] : List Value).toArray 0), (rA, listOf (rvs ++ [Value.ref nA]).toArray (rep + 1))]) (post := cstOf xL pA shA L ws o1 oA oR ++ (tl ++ own)) F7 N7 (fun p hp => ?_) (fun p hp => (hRo p hp).2) hal ?_
    · simp only [List.mem_cons, List.not_mem_nil, or_false] at hp
      rcases hp with rfl | rfl | rfl
      · exact Nat.ne_of_gt (l7 _ (.tail _ (.tail _ (.head _))))
      · exact Nat.ne_of_gt (l5 _ (.tail _ (.head _)))
      · exact neN (by dsimp only; omega)
    intro h8 F8 N8
    clear F6 N6 F7 N7
    k_steps
    unfold Hold
    refine kmk_slice_ints F8 N8 ⟨_, (N8 _ (List.mem_append_right _ (.tail _ (hup _ hfp)))).1, rfl, _, rfl⟩ .none (.int _ _) hfi hdp rfl ?_ (by with_unfolding_all rfl) (fun _ => rfl) hpz2
    intro D3 ws3 h9 F9 N9 l9 hI3 _ _
    k_steps
    unfold Hold
    have hrz : (rvs ++ [Value.ref nA]).toArray.size = bs.ns.length + 1 := by simp [hfr.length]
    refine len_list ⟨_, (N9 _ (.tail _ (.tail _ (.tail _ (.head _))))).1, rfl, _, rfl⟩ (by rw [hrz]; omega) ?_
    rw [hrz]
    k_steps
    unfold Hold
    rename Fr _ _ _ _ => Fa
    rename News _ _ _ _ => Na
    rename_i eA eH l1e
    have he : D3 < eA := l1e.1
    refine kmk_add_ints Fa Na (vs := ws3) (ws := [.int (↑(bs.ns.length + 1) - 1) _]) ⟨_, (Na _ (.tail _ (.head _))).1, rfl, _, rfl⟩ ⟨_, (Na _ (.head _)).1, rfl, _, rfl⟩ hI3 (.cons _ _ .nil) ?_ (Nat.le_trans (show _ ≤ 1000 by simp only [List.length_cons, List.length_nil]; omega) (by rw [sizeLine_eq]; decide))
    intro D4 ws4 h10 F10 N10 l10 hI4
    k_steps
    rename Fr _ _ _ _ => F11
    rename News _ _ _ _ => N11
    have big : ∀ D : Addr, rA < D → aA < D → (∀ p ∈ cstOf xL pA shA L ws o1 oA oR ++ (tl ++ own), p.1 < D) → (∀ b ∈ [rA, aA, xL, pA, shA, L + 1 + 1 + 1, L + 1 + 1, L + 1], b ≠ D) ∧ ∀ p ∈ own, p.1 ≠ D := by
      intro D h1 h2 h3
      refine ⟨fun b hb => ?_, fun p hp => Nat.ne_of_lt (h3 p (List.mem_append_right _ (List.mem_append_right _ hp)))⟩
      simp only [List.mem_cons, List.not_mem_nil, or_false] at hb
      rcases hb with rfl | rfl | rfl | rfl | rfl | rfl | rfl | rfl
      · exact Nat.ne_of_lt h1
      · exact Nat.ne_of_lt h2
      · exact Nat.ne_of_lt (h3 _ (.head _))
      · exact Nat.ne_of_lt (h3 _ (.tail _ (.head _)))
      · exact Nat.ne_of_lt (h3 _ (.tail _ (.tail _ (.head _))))
      · exact Nat.ne_of_lt (h3 _ (.tail _ (.tail _ (.tail _ (.head _)))))
      · exact Nat.ne_of_lt (h3 _ (.tail _ (.tail _ (.tail _ (.tail _ (.head _))))))
      · exact Nat.ne_of_lt (h3 _ (.tail _ (.tail _ (.tail _ (.tail _ (.tail _ (.head _)))))))
    have bn := big nA (l5 _ (.head _)) (l5 _ (.tail _ (.head _))) fun p hp => l5 p (.tail _ (.tail _ hp))
    have b2 := big D2 (l7 _ (.tail _ (.head _))) (l7 _ (.tail _ (.tail _ (.head _)))) fun p hp => l7 p (.tail _ (.tail _ (.tail _ hp)))
    have b3 := big D3 (l9 _ (.tail _ (.tail _ (.head _)))) (l9 _ (.tail _ (.tail _ (.tail _ (.head _))))) fun p hp => l9 p (.tail _ (.tail _ (.tail _ (.tail _ hp))))
    have be := big eA (Nat.lt_trans (l9 _ (.tail _ (.tail _ (.head _)))) he) (Nat.lt_trans (l9 _ (.tail _ (.tail _ (.tail _ (.head _))))) he) fun p hp => Nat.lt_trans (l9 p (.tail _ (.tail _ (.tail _ (.tail _ hp))))) he
    have b4 := big D4 (l10 _ (.tail _ (.tail _ (.tail _ (.tail _ (.head _)))))) (l10 _ (.tail _ (.tail _ (.tail _ (.tail _ (.tail _ (.head _))))))) fun p hp => l10 p (.tail _ (.tail _ (.tail _ (.tail _ (.tail _ (.tail _ hp))))))
    have hsub : ∀ p ∈ cstOf xL pA shA L ws o1 oA oR ++ tl, p ∈ cstOf xL pA shA L ws o1 oA oR ++ ([(D4, listOf ws4.toArray 0), (D3, listOf ws3.toArray 0), (D2, listOf ws2.toArray 0), (nA, listOf ([.int (1 + x.fmod 12) t1, .int (deepOf bs.path x) t2, .int (1 + (x.fdiv 60).fmod 3) t3] : List Value).toArray 0)] ++ tl) := fun p hp => by
      rcases List.mem_append.mp hp with h | h
      · exact List.mem_append_left _ h
      · exact List.mem_append_right _ (List.mem_append_right _ h)
    have hnew : ∀ p ∈ [(D4, listOf ws4.toArray 0), (D3, listOf ws3.toArray 0), (D2, listOf ws2.toArray 0), (nA, listOf ([.int (1 + x.fmod 12) t1, .int (deepOf bs.path x) t2, .int (1 + (x.fdiv 60).fmod 3) t3] : List Value).toArray 0)], p ∈ cstOf xL pA shA L ws o1 oA oR ++ ([(D4, listOf ws4.toArray 0), (D3, listOf ws3.toArray 0), (D2, listOf ws2.toArray 0), (nA, listOf ([.int (1 + x.fmod 12) t1, .int (deepOf bs.path x) t2, .int (1 + (x.fdiv 60).fmod 3) t3] : List Value).toArray 0)] ++ tl) :=
      fun p hp => List.mem_append_right _ (List.mem_append_left _ hp)
    refine kd_end (⟨rvs ++ [.ref nA], rep + 1, avs ++ [.ref D2], aep + 1, D4, ws4, 0, bstep bs x⟩ : LS) [(D4, listOf ws4.toArray 0), (D3, listOf ws3.toArray 0), (D2, listOf ws2.toArray 0), (nA, listOf ([.int (1 + x.fmod 12) t1, .int (deepOf bs.path x) t2, .int (1 + (x.fdiv 60).fmod 3) t3] : List Value).toArray 0)] hsep F11 N11
      (fun p hp => ?_) (fun p hp => ?_) rfl (fun q hq => ?_) (fun q hq => ?_) (fun p hp => ?_) (fun z h1 h2 h3 => ?_) ⟨(hfr.mono fun _ _ h => h.mono hsub).snoc ⟨nA, t1, t2, t3, rfl, hnew _ (.tail _ (.tail _ (.tail _ (.head _))))⟩, (hfa.mono fun _ _ h => h.mono hsub).snoc ⟨D2, ws2, rfl, hnew _ (.tail _ (.tail _ (.head _))), hI2⟩, hnew _ (.head _), hI4⟩ (by rw [build_snoc, ← hP])
    · simp only [List.mem_append, List.mem_cons, List.not_mem_nil, or_false] at hp ⊢
      rcases hp with (h | h) | h | (h | h | h | h) | h <;> simp [h]
    · simp only [List.mem_append, List.mem_cons, List.not_mem_nil, or_false]
      simp [hp]
    · simp only [List.mem_cons, List.not_mem_nil, or_false] at hq
      rcases hq with rfl | rfl | rfl | rfl
      · exact b4.1
      · exact b3.1
      · exact b2.1
      · exact bn.1
    · simp only [List.mem_cons, List.not_mem_nil, or_false] at hq
      rcases hq with rfl | rfl | rfl | rfl
      · exact b4.2
      · exact b3.2
      · exact b2.2
      · exact bn.2
    · rw [List.mem_singleton.mp hp]; rfl
    · have h2' : ¬ z = Str.ofString "path" := h2 _ (List.mem_singleton.mpr rfl)
      have h3' : ¬ z = Str.ofString "deep" := by simpa using h3
      simp [h1, h2', h3', kstB]
  case done =>
    rintro ⟨rvs, rep, avs, aep, pB, pvs, pn, bs⟩ tl u' h' tk' hoff ⟨hfr, hfa, hfp, hfi⟩ hP F3 N3
    dsimp only at hfr hfa hfp hfi hP F3 N3
    have N4 : News s.heap L h' ((L + 1 + 1 + 1, o1) :: ([(L + 1 + 1, oA), (L + 1, oR), (rA, listOf rvs.toArray rep), (aA, listOf avs.toArray aep), (xL, listOf ws.toArray 0), (pA, listOf ([] : List Value).toArray 0), (shA, listOf shVals.toArray 0)] ++ tl)) := by
      intro p hp
      refine N3 p ?_
      simp only [List.mem_cons, List.mem_append, List.not_mem_nil, or_false] at hp ⊢
      rcases hp with h | (h | h | h | h | h | h | h) | h <;> simp [h]
    have hmv : ∀ p ∈ cstOf xL pA shA L ws o1 oA oR ++ tl, (∃ its n, p.2 = listOf its n) → p ∈ [(L + 1 + 1, oA), (L + 1, oR), (rA, listOf rvs.toArray rep), (aA, listOf avs.toArray aep), (xL, listOf ws.toArray 0), (pA, listOf ([] : List Value).toArray 0), (shA, listOf shVals.toArray 0)] ++ tl := by
      rintro p hp ⟨its, n, e⟩
      simp only [List.mem_cons, List.mem_append, List.not_mem_nil, or_false] at hp ⊢
      rcases hp with (h | h | h | h | h | h) | h
      · simp [h]
      · simp [h]
      · simp [h]
      · rw [h] at e
        dsimp only at e
        rw [e] at d1
        cases d1
      · simp [h]
      · simp [h]
      · simp [h]
    replace hfr := hfr.mono fun _ _ h => NodeIn.monoD hmv h
    replace hfa := hfa.mono fun _ _ h => AboveIn.monoD hmv h
    have hRo : ∀ p ∈ [(L + 1 + 1, oA), (L + 1, oR), (rA, listOf rvs.toArray rep), (aA, listOf avs.toArray aep), (xL, listOf ws.toArray 0), (pA, listOf ([] : List Value).toArray 0), (shA, listOf shVals.toArray 0)] ++ tl, p.1 ≠ L + 1 + 1 + 1 := by
      intro p hp
      rcases List.mem_append.mp hp with h | h
      · simp only [List.mem_cons, List.not_mem_nil, or_false] at h
        rcases h with rfl | rfl | rfl | rfl | rfl | rfl | rfl <;> exact neN (by dsimp only; omega)
      · exact hoff p h _ (by simp)
    clear N3 hmv NX NX2 hfp hfi hoff
    have hrz : rvs.toArray.size = bs.ns.length := by simpa using hfr.length
    have hbl := build_len xs
    rw [← hP] at hbl
    dsimp only
    try k_fold
    k_steps
    unfold Hold
    with_reducible refine assign_compO (cl := []) (fun _ => true) (fun v its => ∃ b, v = Value.ref b ∧ Heap.IsList h' b its) ?a1 ?a2 ?a3 ?a4 ?a5 ?a6 ?a7 ?a8 ?a9 ?a10
    case a1 => with_unfolding_all rfl
    case a2 => with_unfolding_all rfl
    case a3 => decide
    case a4 => rfl
    case a5 => decide
    case a6 => rfl
    case a7 => rfl
    case a8 => rfl
    case a10 => intro _; rfl
    k_steps
    unfold Hold
    refine iter_list rfl (l := rA) (items := rvs.toArray) ⟨_, (N4 (rA, listOf rvs.toArray rep) (by simp)).1, rfl, _, rfl⟩ fun I St h2 W hlive hSt hfp hup hI => ⟨I, _, _, _, _, St, _, rfl, W, ?b1, hlive, hSt, hfp, ?b2, F3.ns.keeps hup, ⟨?b4, ?b5⟩, ?b6⟩
    case b1 => exact Nat.le_trans (show rvs.toArray.size ≤ 1000 by omega) (by rw [sizeLine_eq]; decide)
    case b2 =>
      exact fr_off F3 hI
    case b4 =>
      intro C i v s3 m3 E' _ _ _ _ _ _
      exact wpAny_tests_nil ⟨rfl, _, _, rfl, fun _ _ e => e⟩
    case b5 =>
      intro C i v s3 m3 E' hC hPv _ hns hmv hkeep _
      have hvi : rvs[i]? = some v := by simpa using hPv
      obtain ⟨n, hn, b, t1, t2, t3, rfl, hb⟩ := hfr.inv hvi
      have up : ∀ b o, h'.get? b = some o → s3.heap.get? b = some o := fun b o e => hkeep b o (fun hm => by
        have e9 := hI
        rw [← List.mem_singleton.mp hm] at e9
        have e8 : h'.get? b = none := e9
        rw [e8] at e; cases e) (hup b o e)
      have up0 : ∀ b o, s.heap.get? b = some o → s3.heap.get? b = some o := fun b o e => up b o (F3.keep b o e)
      have hbl2 : Heap.IsList h' b ([.int n.kind t1, .int n.deep t2, .int n.ans t3] : List Value).toArray := ⟨_, (N4 _ (List.mem_cons_of_mem _ hb)).1, rfl, _, rfl⟩
      have mk : InTurn := ⟨trivial⟩
      k_steps
      unfold Hold
      refine Name_function_global rfl rfl (loadGlobal_builtin (mg := mg) (mb := mb) (v := .type "list") (TB.g.keeps up0) (mg_none_of XB TB.g (by k_is)) (TB.b.keeps up0) ((TB.builtins _ (by decide)).trans (by boot_by_name)) ?_) (by decide)
      k_steps
      unfold Hold
      refine wpAny_Name (wpAny_loadName_local rfl rfl hns hmv ?_) (by decide)
      k_steps
      unfold Hold
      obtain ⟨ob, ho, hc, nn, hd⟩ := hbl2
      refine call_list_seq (hsz := by show 3 ≤ sizeLine; rw [sizeLine_eq]; decide) b (.inl rfl) (up _ _ ho) hc hd fun h5 c5 hk5 hD5 => ⟨⟨_, _, rfl, Heap.get?_none_of_le (Nat.le_refl _), ⟨_, hD5, rfl, _, rfl⟩, b, rfl, ⟨ob, ho, hc, nn, hd⟩⟩, _, _, rfl, hk5⟩
    case b6 =>
      intro D h3 tk3 ys vs hD hpl hvl hPv hpair hns3 hkeep3
      have evs : vs = rvs := by
        apply List.ext_getElem?
        intro j
        by_cases hj : j < vs.length
        · obtain ⟨v, hv⟩ : ∃ v, vs[j]? = some v := ⟨_, List.getElem?_eq_getElem hj⟩
          rw [hv]
          have := hPv j v hv
          simpa using this.symm
        · rw [List.getElem?_eq_none (by omega), List.getElem?_eq_none (by have : rvs.toArray.size = rvs.length := by simp
                                                                          omega)]
      rw [show vs.filter (fun _ => true) = vs from List.filter_eq_self.mpr (fun _ _ => rfl), evs] at hpair
      obtain ⟨kl, hk1, hk2⟩ := kept_led (h₁ := h') (ns := bs.ns) (hfr.mono fun v n hv => by
        obtain ⟨b, t1, t2, t3, rfl, hb⟩ := hv
        refine ⟨t1, t2, t3, fun its hG => ?_⟩
        obtain ⟨b', e, o, ho, _, k, hd⟩ := hG
        cases e
        have := (N4 _ (List.mem_cons_of_mem _ hb)).1
        dsimp only at this
        rw [ho] at this
        cases this
        cases hd
        rfl) hpair
      obtain ⟨cD, hcD⟩ := hpl
      clear evs hpair
      have hk3 : ∀ p ∈ (D, ({ cls := .type "list", data := .seq ys cD } : Obj)) :: kl, h3.get? p.1 = some p.2 ∧ h2.get? p.1 = none := by
        intro p hp
        rcases List.mem_cons.mp hp with rfl | hp
        · exact ⟨hcD, hD⟩
        · exact hk1 p hp
      have hk4 : ∀ p ∈ (D, ({ cls := .type "list", data := .seq ys cD } : Obj)) :: kl, h'.get? p.1 = none := fun p hp => by
        cases e : h'.get? p.1 with
        | none => rfl
        | some o => have := hup _ _ e; rw [(hk3 p hp).2] at this; cases this
      have hDk : ∀ p ∈ (D, ({ cls := .type "list", data := .seq ys cD } : Obj)) :: kl, p.1 ≠ L + 1 + 1 + 1 := fun p hp e => by
        have e1 := hk4 p hp
        have e2 : h'.get? (L + 1 + 1 + 1) = some o1 := (N4 _ (.head _)).1
        rw [e, e2] at e1; cases e1
      have F5 : Fr s.heap L h3 _ := ⟨hns3, fun b o e => hkeep3 b o (fun e9 => by rw [e9, fr_self F3] at e; cases e) (fun hm => by
        have e1 := F3.keep b o e
        rw [List.mem_singleton.mp hm] at e1
        have e2 : h'.get? I = none := hI
        rw [e2] at e1; cases e1) (hup b o (F3.keep b o e)), F3.above⟩
      have N5 : News s.heap L h3 ((L + 1 + 1 + 1, o1) :: ([(L + 1 + 1, oA), (L + 1, oR), (rA, listOf rvs.toArray rep), (aA, listOf avs.toArray aep), (xL, listOf ws.toArray 0), (pA, listOf ([] : List Value).toArray 0), (shA, listOf shVals.toArray 0)] ++ (((D, ({ cls := .type "list", data := .seq ys cD } : Obj)) :: kl) ++ tl))) := by
        intro p hp
        have hcase : p ∈ (D, ({ cls := .type "list", data := .seq ys cD } : Obj)) :: kl ∨ p ∈ ((L + 1 + 1 + 1, o1) :: ([(L + 1 + 1, oA), (L + 1, oR), (rA, listOf rvs.toArray rep), (aA, listOf avs.toArray aep), (xL, listOf ws.toArray 0), (pA, listOf ([] : List Value).toArray 0), (shA, listOf shVals.toArray 0)] ++ tl)) := by
          simp only [List.mem_cons, List.mem_append, List.not_mem_nil, or_false] at hp ⊢
          rcases hp with h | (h | h | h | h | h | h | h) | (h | h) | h <;> simp [h]
        rcases hcase with h | h
        · refine ⟨(hk3 p h).1, fun e => ?_, ?_⟩
          · obtain ⟨o, _, _, eL, _⟩ := F3.ns
            have e7 := hk4 p h
            have eL' : h'.get? L = some o := eL
            rw [e, eL'] at e7; cases e7
          · cases e : s.heap.get? p.1 with
            | none => rfl
            | some o => have := F3.keep _ _ e; rw [hk4 p h] at this; cases this
        · have z := N4 p h
          refine ⟨hkeep3 _ _ z.2.1 (fun hm => ?_) (hup _ _ z.1), z.2⟩
          have e1 := z.1
          rw [List.mem_singleton.mp hm] at e1
          have e2 : h'.get? I = none := hI
          rw [e2] at e1; cases e1
      dsimp only
      have mk : InTurn := ⟨trivial⟩
      k_steps
      unfold Hold
      rename Fr _ _ _ _ => F6
      rename News _ _ _ _ => N6
      refine len_list ⟨_, (N6 (rA, listOf rvs.toArray rep) (by simp)).1, rfl, _, rfl⟩ (by rw [hrz]; omega) ?_
      rw [hrz]
      k_steps
      unfold Hold
      rename Fr _ _ _ _ => F7
      rename News _ _ _ _ => N7
      refine range_new F7 N7 fun rg h8 tk8 tq1 tq2 tq3 F8 N8 l8 => ?_
      k_steps
      unfold Hold
      rename Fr _ _ _ _ => F9
      rename News _ _ _ _ => N9
      rename_i pI pD hq1 lq1 lq2 hq2 tkS tS tT hT lT hq3 hq4 hq5 h9
      obtain ⟨dr, hdr⟩ : ∃ dr, dr = script.sum.fmod 4096 := ⟨_, rfl⟩
      rw [← hdr] at F9
      have hdr2 : 0 ≤ dr ∧ dr < 4096 := hdr ▸ fmod_range _ (by decide)
      have N10 : News s.heap L h9 ((L + 1 + 1 + 1, o1) :: ([(L + 1 + 1, oA), (L + 1, oR), (rA, listOf rvs.toArray rep), (aA, listOf avs.toArray aep), (xL, listOf ws.toArray 0), (pA, listOf ([] : List Value).toArray 0), (shA, listOf shVals.toArray 0), (pI, instObj 31 pD), (pD, dictOf [] 0), (rg, rangeObj bs.ns.length tq1 tq2 tq3)] ++ (((D, ({ cls := .type "list", data := .seq ys cD } : Obj)) :: kl) ++ tl))) := by
        intro p hp
        refine N9 p ?_
        simp only [List.mem_cons, List.mem_append, List.not_mem_nil, or_false] at hp ⊢
        rcases hp with h | (h | h | h | h | h | h | h | h | h | h) | (h | h) | h <;> simp [h]
      clear N9
      with_reducible refine LCg.ListComp_U (F₀ := F9) (cl := []) ?hclos ?hcell ?hkind ?hnames ?hx ?h ?hs
      case hclos => with_unfolding_all rfl
      case hcell => decide
      case hkind => rfl
      case hnames => decide
      case hx => rfl
      case hs => intro _; rfl
      k_steps
      unfold Hold
      refine range_new F9 N10 fun r12 h10 tk10 tr1 tr2 tr3 F10 N11 l10 => ?_
      refine CompSrc.range rfl F10 N11 (N11 _ (.head _)).1 (range_small (n := 12) (by decide)) (rangeSize_nat _ _) (by rw [sizeLine_eq]; decide) fun g => rest_ind (n := 12) (fun i zs news => ∃ ex, news = ex ++ ((r12, rangeObj 12 tr1 tr2 tr3) :: ((L + 1 + 1 + 1, o1) :: ([(L + 1 + 1, oA), (L + 1, oR), (rA, listOf rvs.toArray rep), (aA, listOf avs.toArray aep), (xL, listOf ws.toArray 0), (pA, listOf ([] : List Value).toArray 0), (shA, listOf shVals.toArray 0), (pI, instObj 31 pD), (pD, dictOf [] 0), (rg, rangeObj bs.ns.length tq1 tq2 tq3)] ++ (((D, ({ cls := .type "list", data := .seq ys cD } : Obj)) :: kl) ++ tl)))) ∧ Rel2 (PairIn ex) zs (pows i) ∧ ∀ p ∈ ex, p.1 ≠ L + 1 + 1 + 1) ?fin ?turn2 12 0 [] _ rfl ⟨[], rfl, .nil, fun _ h => (nomatch h)⟩
      case turn2 =>
        rintro i zs news hi ⟨ex, rfl, hrel, hexo⟩ v I oI C oC DD m2 hh tkh E' ⟨t, rfl⟩ hC hmk Fh Nh off hne
        k_steps
        unfold Hold
        refine wpAny_Name (wpAny_loadName_local rfl rfl (hC.ns (Nh (C, oC) (.tail _ (.head _))).1) hmk ?_) (by decide)
        k_steps
        unfold Hold
        refine lshift_int_small (by omega) (by omega) (by decide) ?_
        k_steps
        unfold Hold
        refine wpAny_Name (wpAny_loadName_local rfl rfl (hC.ns (Nh (C, oC) (.tail _ (.head _))).1) hmk ?_) (by decide)
        k_steps
        unfold Hold
        refine lshift_int_small (by omega) (by omega) (by decide) ?_
        have epow : (1 * 2 ^ (0 + (i : Int)).toNat : Int) = 2 ^ i := by simp
        rw [epow]
        k_steps
        rename Fr _ _ _ _ => Fe
        rename News _ _ _ _ => Ne9
        rename_i T hT9 lT9
        refine' CompEnd.intro Fe Ne9 ((T, ({ cls := .type "tuple", data := .seq ([.int (2 ^ i) ?u1, .int (2 ^ i) ?u2] : List Value).toArray } : Obj)) :: (ex ++ _)) (fun p hp => ?sub) ⟨⟨Nat.ne_of_gt lT9.1, Nat.ne_of_gt lT9.2.1, Nat.ne_of_gt lT9.2.2.1⟩, off⟩ trivial ⟨(T, ({ cls := .type "tuple", data := .seq ([.int (2 ^ i) ?u1, .int (2 ^ i) ?u2] : List Value).toArray } : Obj)) :: ex, rfl, ?rel, fun p hp => ?off9⟩
        case off9 =>
          rcases List.mem_cons.mp hp with rfl | hp
          · exact Nat.ne_of_gt (allLt_all lT9.2.2.2 _ (List.mem_append_right _ (.tail _ (.head _))))
          · exact hexo p hp
        case sub =>
          rcases List.mem_cons.mp hp with h | hp
          · rw [h]; exact .tail _ (.head _)
          rcases List.mem_cons.mp hp with h | hp
          · rw [h]; exact .tail _ (.tail _ (.head _))
          rcases List.mem_cons.mp hp with h | hp
          · rw [h]; exact .tail _ (.tail _ (.tail _ (.head _)))
          rcases List.mem_cons.mp hp with h | hp
          · rw [h]; exact .head _
          · exact .tail _ (.tail _ (.tail _ (.tail _ hp)))
        case rel =>
          rw [pows_succ]
          exact (hrel.mono fun _ _ h => h.mono fun p hp => .tail _ hp).snoc ⟨T, _, _, _, _, rfl, .head _, rfl, rfl⟩
      case fin =>
        rintro zs news ⟨ex, rfl, hrel, hexo⟩
        intro DA hD9 tkD Fd Nd offD
        k_steps
        unfold Hold
        rename Fr _ _ _ _ => Ff
        rename News _ _ _ _ => Nf
        rename_i T1 hT1 lT1 T2 hT2 lT2 lA hlA llA
        have hzl : zs.length = 12 := hrel.length.trans (by simp [pows])
        have ho4 := allLt_all lT1.2 _ (List.mem_append_right _ (.tail _ (.head _)))
        refine kmk_add_lit (its := zs.toArray) (its2 := ([.ref T1, .ref T2] : List Value).toArray) (zs := zs ++ [.ref T1, .ref T2]) Ff Nf ⟨_, (Nf _ (.tail _ (.tail _ (.tail _ (.head _))))).1, rfl, _, rfl⟩ ⟨_, (Nf _ (.head _)).1, rfl, _, rfl⟩ (by simp) (fun AL hAL FA NA lAL => ?_) (by simp only [List.length_cons, List.length_nil]; rw [hzl, sizeLine_eq]; decide)
        have hZ : Rel2 (PairIn ((T1, ({ cls := .type "tuple", data := .seq ([.int dr (tkS + 1), .int dr (tkS + 1)] : List Value).toArray } : Obj)) :: (T2, ({ cls := .type "tuple", data := .seq ([.int 4095 tkD, .int 4294967295 207] : List Value).toArray } : Obj)) :: ex)) (zs ++ [.ref T1] ++ [.ref T2]) (pows 12 ++ [(dr, dr)] ++ [(4095, 4294967295)]) :=
          ((hrel.mono fun _ _ h => h.mono fun p hp => .tail _ (.tail _ hp)).snoc ⟨T1, _, _, _, _, rfl, .head _, rfl, rfl⟩).snoc ⟨T2, _, _, _, _, rfl, .tail _ (.head _), rfl, rfl⟩
        rw [List.append_assoc] at hZ
        have NB : News s.heap L hAL ((L + 1 + 1 + 1, o1) :: ([(AL, listOf (zs ++ [Value.ref T1, Value.ref T2]).toArray 0), (L + 1 + 1, oA), (L + 1, oR), (rA, listOf rvs.toArray rep), (aA, listOf avs.toArray aep), (xL, listOf ws.toArray 0), (pA, listOf ([] : List Value).toArray 0), (shA, listOf shVals.toArray 0), (pI, instObj 31 pD), (pD, dictOf [] 0), (rg, rangeObj bs.ns.length tq1 tq2 tq3)] ++ (((T1, ({ cls := .type "tuple", data := .seq ([.int dr (tkS + 1), .int dr (tkS + 1)] : List Value).toArray } : Obj)) :: (T2, ({ cls := .type "tuple", data := .seq ([.int 4095 tkD, .int 4294967295 207] : List Value).toArray } : Obj)) :: ex) ++ (((D, ({ cls := .type "list", data := .seq ys cD } : Obj)) :: kl) ++ tl)))) := by
          intro p hp
          refine NA p ?_
          simp only [List.mem_cons, List.mem_append, List.not_mem_nil, or_false] at hp ⊢
          rcases hp with h | (h | h | h | h | h | h | h | h | h | h | h) | (h | h | h) | (h | h) | h <;> simp [h]
        have hRB : ∀ p ∈ [(AL, listOf (zs ++ [Value.ref T1, Value.ref T2]).toArray 0), (L + 1 + 1, oA), (L + 1, oR), (rA, listOf rvs.toArray rep), (aA, listOf avs.toArray aep), (xL, listOf ws.toArray 0), (pA, listOf ([] : List Value).toArray 0), (shA, listOf shVals.toArray 0), (pI, instObj 31 pD), (pD, dictOf [] 0), (rg, rangeObj bs.ns.length tq1 tq2 tq3)] ++ (((T1, ({ cls := .type "tuple", data := .seq ([.int dr (tkS + 1), .int dr (tkS + 1)] : List Value).toArray } : Obj)) :: (T2, ({ cls := .type "tuple", data := .seq ([.int 4095 tkD, .int 4294967295 207] : List Value).toArray } : Obj)) :: ex) ++ (((D, ({ cls := .type "list", data := .seq ys cD } : Obj)) :: kl) ++ tl)), p.1 ≠ L + 1 + 1 + 1 := by
          intro p hp
          have hAL3 : L + 1 + 1 + 1 < AL := lAL (L + 1 + 1 + 1, o1) (by simp)
          rcases List.mem_append.mp hp with hp | hp
          · simp only [List.mem_cons, List.not_mem_nil, or_false] at hp
            rcases hp with rfl | rfl | rfl | rfl | rfl | rfl | rfl | rfl | rfl | rfl | rfl
            · exact Nat.ne_of_gt hAL3
            · exact hRo _ (by simp)
            · exact hRo _ (by simp)
            · exact hRo _ (by simp)
            · exact hRo _ (by simp)
            · exact hRo _ (by simp)
            · exact hRo _ (by simp)
            · exact hRo _ (by simp)
            · exact Nat.ne_of_gt (Nat.lt_trans lq1.1 lq2)
            · exact Nat.ne_of_gt lq1.1
            · exact Nat.ne_of_gt (l8 (L + 1 + 1 + 1, o1) (by simp))
          · rcases List.mem_append.mp hp with hp | hp
            · rcases List.mem_cons.mp hp with rfl | hp
              · exact Nat.ne_of_gt ho4
              · rcases List.mem_cons.mp hp with rfl | hp
                · exact Nat.ne_of_gt (Nat.lt_trans ho4 lT2.1)
                · exact hexo p hp
            · rcases List.mem_append.mp hp with hp | hp
              · exact hDk p hp
              · exact hRo p (List.mem_append_right _ hp)
        clear NA Nf
        k_steps
        rename Fr _ _ _ _ => Fg
        rename News _ _ _ _ => Ng
        obtain ⟨tq, htq⟩ : ∃ tq, tq = (((T1, ({ cls := .type "tuple", data := .seq ([.int dr (tkS + 1), .int dr (tkS + 1)] : List Value).toArray } : Obj)) :: (T2, ({ cls := .type "tuple", data := .seq ([.int 4095 tkD, .int 4294967295 207] : List Value).toArray } : Obj)) :: ex) ++ (((D, ({ cls := .type "list", data := .seq ys cD } : Obj)) :: kl) ++ tl)) := ⟨_, rfl⟩
        have mZ : ∀ p ∈ ((T1, ({ cls := .type "tuple", data := .seq ([.int dr (tkS + 1), .int dr (tkS + 1)] : List Value).toArray } : Obj)) :: (T2, ({ cls := .type "tuple", data := .seq ([.int 4095 tkD, .int 4294967295 207] : List Value).toArray } : Obj)) :: ex), p ∈ tq := fun p hp => htq ▸ List.mem_append_left _ hp
        have mK : ∀ p ∈ ((D, ({ cls := .type "list", data := .seq ys cD } : Obj)) :: kl), p ∈ tq := fun p hp => htq ▸ List.mem_append_right _ (List.mem_append_left _ hp)
        have mT : ∀ p ∈ tl, p ∈ tq := fun p hp => htq ▸ List.mem_append_right _ (List.mem_append_right _ hp)
        replace Ng : News s.heap L _ ((L + 1 + 1 + 1, o1) :: (AL, listOf (zs ++ [Value.ref T1, Value.ref T2]).toArray 0) :: (L + 1 + 1, oA) :: (L + 1, oR) :: (rA, listOf rvs.toArray rep) :: (aA, listOf avs.toArray aep) :: (xL, listOf ws.toArray 0) :: (pA, listOf ([] : List Value).toArray 0) :: (shA, listOf shVals.toArray 0) :: (pI, instObj 31 pD) :: (pD, dictOf [] 0) :: (rg, rangeObj bs.ns.length tq1 tq2 tq3) :: tq) := htq ▸ Ng
        have hRC : ∀ p ∈ (AL, listOf (zs ++ [Value.ref T1, Value.ref T2]).toArray 0) :: (L + 1 + 1, oA) :: (L + 1, oR) :: (rA, listOf rvs.toArray rep) :: (aA, listOf avs.toArray aep) :: (xL, listOf ws.toArray 0) :: (pA, listOf ([] : List Value).toArray 0) :: (shA, listOf shVals.toArray 0) :: (pI, instObj 31 pD) :: (pD, dictOf [] 0) :: (rg, rangeObj bs.ns.length tq1 tq2 tq3) :: tq, p.1 ≠ L + 1 + 1 + 1 := htq ▸ hRB
        obtain ⟨rest, hrest⟩ : ∃ rest, rest = ((AL, listOf (zs ++ [Value.ref T1, Value.ref T2]).toArray 0) :: (L + 1 + 1, oA) :: (L + 1, oR) :: (rA, listOf rvs.toArray rep) :: (aA, listOf avs.toArray aep) :: (xL, listOf ws.toArray 0) :: (pA, listOf ([] : List Value).toArray 0) :: (shA, listOf shVals.toArray 0) :: (pI, instObj 31 pD) :: (pD, dictOf [] 0) :: (rg, rangeObj bs.ns.length tq1 tq2 tq3) :: tq) := ⟨_, rfl⟩
        have mB : ∀ p ∈ [(L + 1 + 1, oA), (L + 1, oR), (rA, listOf rvs.toArray rep), (aA, listOf avs.toArray aep), (xL, listOf ws.toArray 0), (pA, listOf ([] : List Value).toArray 0), (shA, listOf shVals.toArray 0)] ++ tl, p ∈ rest := by
          intro p hp
          rw [hrest]
          simp only [List.mem_cons, List.mem_append, List.not_mem_nil, or_false] at hp ⊢
          rcases hp with (h | h | h | h | h | h | h) | h
          · simp [h]
          · simp [h]
          · simp [h]
          · simp [h]
          · simp [h]
          · simp [h]
          · simp [h]
          · simp [mT p h]
        have mQ : ∀ p ∈ tq, p ∈ rest := fun p hp => by rw [hrest]; simp [hp]
        have hrow : ∀ {h9 l9}, News s.heap L h9 l9 → (∀ p ∈ rest, p ∈ l9) → RowAt h9 rA bs.ns := fun N hs => ⟨rvs, ⟨_, (N (rA, listOf rvs.toArray rep) (hs _ (mB _ (by simp)))).1, rfl, _, rfl⟩, rel_nodes (hfr.mono fun _ _ x => NodeIn.at N (fun p hp => hs p (mB p hp)) x)⟩
        have hshown : ∀ {h9 l9}, News s.heap L h9 l9 → (∀ p ∈ rest, p ∈ l9) → ShownAt h9 shA := fun N hs => ⟨shVals, ⟨_, (N (shA, listOf shVals.toArray 0) (hs _ (mB _ (by simp)))).1, rfl, _, rfl⟩, by
          unfold shVals shownInts
          repeat constructor⟩
        have hplaces : ∀ {h9 l9}, News s.heap L h9 l9 → (∀ p ∈ rest, p ∈ l9) → PlacesAt h9 rg (rangeKs 0 bs.ns.length) := fun N hs => .inl ⟨bs.ns.length, tq1, tq2, tq3, (N (rg, rangeObj bs.ns.length tq1 tq2 tq3) (hs _ (by rw [hrest]; simp))).1, by omega, rfl⟩
        have hkind : ∀ n ∈ bs.ns, 1 ≤ n.kind ∧ n.kind ≤ 12 := fun n hn => (build_ok xs n (hP ▸ hn)).1
        have hans : ∀ n ∈ bs.ns, 1 ≤ n.ans ∧ n.ans ≤ 3 := fun n hn => (build_ok xs n (hP ▸ hn)).2.1
        clear hRB hRo hk4 hk3 hrel hexo offD hDk
        with_reducible refine' for_pairs (C := L + 1 + 1 + 1) (v₀ := none) (o1 := o1) (AL := AL) (n0 := 0) (items := zs ++ [Value.ref T1, Value.ref T2]) (zs := pows 12 ++ [(dr, dr)] ++ [(4095, 4294967295)]) [(Str.ofString "plain", .ref pI), (Str.ofString "places", .ref rg), (Str.ofString "kept", .ref D), (Str.ofString "shown", .ref shA)] ?pe ?p1 ?pF ?p2 ?pN ?pR ?pd ?pm ?pZ ?p4 ?p5 ?p6 ?p7 ?p8 ?p9 ?p10 ?turn7 ?done7 ?p11
        case pe => rfl
        case p1 => rfl
        case pF => exact Fg
        case pN => exact Ng
        case pR => exact hRC
        case pd => exact d1
        case pm => exact .head _
        case pZ =>
          refine hZ.mono fun _ _ h => h.mono fun p hp => ?_
          have := mZ p hp
          simp [this]
        case p2 => 
          intro p hp
          simp only [List.mem_cons, List.not_mem_nil, or_false] at hp
          rcases hp with rfl | rfl | rfl | rfl <;> rfl
        case p4 => rfl
        case p5 => rfl
        case p6 => rfl
        case p7 => rfl
        case p8 =>
          intro p hp
          simp only [List.mem_cons, List.not_mem_nil, or_false] at hp
          rcases hp with rfl | rfl | rfl | rfl <;> (show Str.ofString _ ≠ _; decide)
        case p9 => rfl
        case p11 => intro _; rfl
        case p10 => exact wpAny_Name (wpAny_loadName_local rfl rfl Fg.ns (v := .ref AL) rfl ⟨rfl, rfl⟩) (by decide)
        case turn7 =>
          clear Fg Ng
          intro i b k t1 t2 I oI o' h tk m' hz Ft hf' Nt hRt dt
          obtain ⟨m9, rfl⟩ : ∃ m9 : Str → Option Value, m' = fun y => if y = Str.ofString "plain" then some (Value.ref pI) else if y = Str.ofString "places" then some (Value.ref rg) else if y = Str.ofString "kept" then some (Value.ref D) else if y = Str.ofString "shown" then some (Value.ref shA) else m9 y :=
            ⟨m', fix_one (hf' _ (.head _)) (fix_one (hf' _ (.tail _ (.head _))) (fix_one (hf' _ (.tail _ (.tail _ (.head _)))) (fix_one (hf' _ (.tail _ (.tail _ (.tail _ (.head _))))) rfl)))⟩
          clear hf'
          have mk2 : InLoop := ⟨trivial⟩
          have hsz : bs.ns.length ≤ 50 := by omega
          k_steps
          unfold Hold
          rename Fr _ _ _ _ => F20
          rename News _ _ _ _ => N20
          rename_i T20 hT20 lT20
          refine wpAny_call (codeAny_mono (there_spec (d := 302) (outer := [_]) (gs := some []) (u := 7) (pushX B F20 rfl rfl) XB TB (by decide) (hrow N20 (fun p hp => .tail _ (.tail _ (.tail _ (hrest ▸ hp))))) (hplaces N20 (fun p hp => .tail _ (.tail _ (.tail _ (hrest ▸ hp))))) (fun i hi => by have := mem_rangeKs hi; omega) ⟨_, (N20 _ (.head _)).1, rfl, _, rfl⟩ (.cons _ _ (.cons _ _ (.cons _ _ .nil))) hkind hsz (by rw [rangeKs_length]; omega)) fun r s' h => ?i5)
          obtain ⟨D21, vs21, n21, h21, tk21, rfl, rfl, I21, F21, N21, o21⟩ := listpost_use F20 N20 h
          clear F20 N20
          dsimp only
          k_steps
          unfold Hold
          refine len_list ⟨_, (N21 (rA, listOf rvs.toArray rep) (by simp)).1, rfl, _, rfl⟩ (by rw [hrz]; omega) ?_
          rw [hrz]
          k_steps
          unfold Hold
          rename Fr _ _ _ _ => F23
          rename News _ _ _ _ => N23
          have hf21 : (List.filter (atP (thereP b [1, 2, 3]) bs.ns) (rangeKs 0 bs.ns.length)).length ≤ 50 := Nat.le_trans (List.length_filter_le _ _) (by rw [rangeKs_length]; exact hsz)
          refine kmk_add_ints F23 N23 (vs := vs21) (ws := [.int bs.ns.length _]) ⟨_, (N23 _ (.tail _ (.head _))).1, rfl, _, rfl⟩ ⟨_, (N23 _ (.head _)).1, rfl, _, rfl⟩ I21 (.cons _ _ .nil) ?_ (Nat.le_trans (show _ ≤ 1000 by simp only [List.length_cons, List.length_nil]; omega) (by rw [sizeLine_eq]; decide))
          intro D24 ws24 h24 F24 N24 l24 I24
          k_steps
          unfold Hold
          rename Fr _ _ _ _ => F25
          rename News _ _ _ _ => N25
          refine wpAny_call (codeAny_mono (first_spec (d := 302) (outer := [_]) (gs := some []) (u := 7) (pushX B F25 rfl rfl) XB TB ?D9 (by decide) (by decide) (N25 (pI, instObj 31 pD) (by simp)).1 (N25 (pD, dictOf [] 0) (by simp)).1 (hrow N25 (fun p hp => .tail _ (.tail _ (.tail _ (.tail _ (.tail _ (.tail _ (hrest ▸ hp)))))))) (hshown N25 (fun p hp => .tail _ (.tail _ (.tail _ (.tail _ (.tail _ (.tail _ (hrest ▸ hp)))))))) hkind hsz) fun r s' h => ?_)
          case D9 => exact dicts_push ktsDicts_nil F25
          obtain ⟨⟨i0, t0, rfl, fst⟩, hK⟩ := h
          obtain ⟨h26, tk26, rfl, F26, N26⟩ := keepsT_use F25 N25 hK
          clear F25 N25 hK
          dsimp only
          have hhit : ∀ n ∈ bs.ns, hit k n = bitAt b n.kind := fun n hn => hit_pair hdr2 hz (hkind n hn).1 (hkind n hn).2
          have hfst := first_getD fst hhit hans
          have htold : toldGo (hit k) bs.ns 0 5 = ((rangeKs 0 bs.ns.length).filter (atP (thereP b [1]) bs.ns)).filter (dueP b bs.ns bs.ab) := by
            rw [hP] at hhit ⊢
            exact told_due hhit
          k_steps
          · rename _ ≠ _ => hne9
            exact absurd hfst hne9
          · rename _ ≠ _ => hne9
            exact absurd hfst hne9
          unfold Hold
          rename Fr _ _ _ _ => F30
          rename News _ _ _ _ => N30
          refine wpAny_call (codeAny_mono (there_spec (d := 302) (outer := [_]) (gs := some []) (u := 7) (pushX B F30 rfl rfl) XB TB (by decide) (hrow N30 (fun p hp => .tail _ (.tail _ (.tail _ (.tail _ (.tail _ (.tail _ (.tail _ (hrest ▸ hp))))))))) (hplaces N30 (fun p hp => .tail _ (.tail _ (.tail _ (.tail _ (.tail _ (.tail _ (.tail _ (hrest ▸ hp))))))))) (fun i hi => by have := mem_rangeKs hi; omega) ⟨_, (N30 _ (.head _)).1, rfl, _, rfl⟩ (.cons _ _ .nil) hkind hsz (by rw [rangeKs_length]; omega)) fun r s' h => ?_)
          obtain ⟨D31, vs31, n31, h31, tk31, rfl, rfl, I31, F31, N31, o31⟩ := listpost_use F30 N30 h
          clear F30 N30
          dsimp only
          k_steps
          unfold Hold
          rename Fr _ _ _ _ => F32
          rename News _ _ _ _ => N32
          with_reducible refine' wpAny_Assign_ListComp_free (valP (dueP b bs.ns bs.ab)) (fun v y => y = v) ?cf1 ?cf2 ?cf3 ?cf4 ?cf5 ?cf6 ?cf7 ?cf8 ?cf9 ?cf10
          case cf1 => with_unfolding_all rfl
          case cf2 => with_unfolding_all rfl
          case cf3 => decide
          case cf4 => rfl
          case cf5 => decide
          case cf6 => rfl
          case cf7 => rfl
          case cf8 => rfl
          case cf10 => intro _; rfl
          k_steps
          unfold Hold
          refine iter_list rfl (l := D31) (items := vs31.toArray) ⟨_, (N32 _ (.head _)).1, rfl, _, rfl⟩ fun I9 St h33 W hlive hSt hfp hup hI => ⟨I9, _, _, _, _, St, _, rfl, W, ?cg1, hSt, hfp, ?cg2, F32.ns.keeps hup, ⟨?cg4, ?cg5⟩, ?cg6⟩
          case cg1 =>
            have hf31 : (List.filter (atP (thereP b [1]) bs.ns) (rangeKs 0 bs.ns.length)).length ≤ 50 := Nat.le_trans (List.length_filter_le _ _) (by rw [rangeKs_length]; exact hsz)
            have := I31.length
            exact Nat.le_trans (show vs31.toArray.size ≤ 1000 by simp; omega) (by rw [sizeLine_eq]; decide)
          case cg2 => exact fr_off F32 hI
          case cg5 =>
            intro C i v s₃ m₃ E' hC hPv _ hns hmk hkeep _
            refine wpAny_Name (wpAny_loadName_local rfl rfl hns hmk ⟨rfl, ⟨_, _, rfl, fun _ _ e => e⟩⟩) (by decide)
          case cg4 =>
            intro C i v s₃ m₃ E' hC hPv hns hmk hkeep _
            have up : ∀ b o, Heap.get? _ b = some o → s₃.heap.get? b = some o := fun b o e => hkeep b o (fun hm => by
              rw [List.mem_singleton.mp hm] at e
              rw [hI] at e; cases e) (hup b o e)
            have F33 := F32.keeps up
            have N33 := N32.grown up
            clear F32 N32
            obtain ⟨kk, tkk, hkk, rfl⟩ := ints_inv I31 (show vs31[i]? = some v by simpa using hPv)
            have hkr := mem_rangeKs (List.mem_filter.mp (List.mem_of_getElem? hkk)).1
            have hkl : kk.toNat < bs.ab.length := by omega
            have hab : bs.ab[kk.toNat]? = some (bs.ab[kk.toNat]'hkl) := List.getElem?_eq_getElem hkl
            generalize bs.ab[kk.toNat]'hkl = as at hab
            obtain ⟨va, hva, xa, was, rfl, hxa, hxi⟩ := hfa.get hab
            have hdp : valP (dueP b bs.ns bs.ab) (.int kk tkk) = (as.filter (atP (thereP b [2]) bs.ns)).isEmpty := by simp [valP, dueP, hab]
            have hTI := (tinv b xs).ab as (hP ▸ List.mem_of_getElem? hab)
            rw [← hP] at hTI
            rw [hdp]
            refine wpAny_tests_one ?_
            have c1 : Heap.IsCell s₃.heap (L + 1 + 1 + 1) (some (.int b t1)) := ⟨o', (N33 (L + 1 + 1 + 1, o') (by simp)).1, dt⟩
            have c2 : Heap.IsCell s₃.heap (L + 1 + 1) (some (.ref aA)) := ⟨oA, (N33 (L + 1 + 1, oA) (by simp)).1, dA⟩
            have c3 : Heap.IsCell s₃.heap (L + 1) (some (.ref rA)) := ⟨oR, (N33 (L + 1, oR) (by simp)).1, dR⟩
            k_steps
            unfold Hold
            refine Name_function_global rfl rfl (loadGlobal_global (mg := mg) (v := .ref 61) (TB.g.keeps F33.keep) (mg_of XB TB.g (by k_is)) ?_) (by decide)
            k_steps
            unfold Hold
            refine wpAny_Name (wpAny_loadName_cell rfl rfl rfl c3 ?_) (by decide)
            k_steps
            unfold Hold
            refine wpAny_Name (wpAny_loadName_cell rfl rfl rfl c1 ?_) (by decide)
            k_steps
            unfold Hold
            refine wpAny_Name (wpAny_loadName_cell rfl rfl rfl c2 ?_) (by decide)
            k_steps
            unfold Hold
            refine wpAny_Name (wpAny_loadName_local rfl rfl hns hmk ?_) (by decide)
            k_steps
            unfold Hold
            refine item_at (l := aA) (items := avs.toArray) ⟨_, (N33 (aA, listOf avs.toArray aep) (by simp)).1, rfl, _, rfl⟩ (by omega) (by omega) (x := .ref xa) (by simpa using hva) ?_
            have mk3 : InTest := ⟨trivial⟩
            k_steps
            unfold Hold
            refine newTuple_NK F33 N33 fun h34 F34 N34 k34 => ?_
            clear F33 N33
            replace k34 := KeepH.mk k34
            k_steps
            unfold Hold
            refine wpAny_call (codeAny_mono (there_spec (d := 302) (outer := [_]) (gs := some []) (u := 7) (pushX B F34 rfl rfl) XB TB (by decide) (hrow N34 (fun p hp => .tail _ (.tail _ (.tail _ (.tail _ (.tail _ (.tail _ (.tail _ (.tail _ (.tail _ (hrest ▸ hp))))))))))) (.inr ⟨was, ⟨_, (N34 (xa, listOf was.toArray 0) (.tail _ (.tail _ (.tail _ (.tail _ (.tail _ (.tail _ (.tail _ (.tail _ (.tail _ (hrest ▸ mB _ hxa))))))))))).1, rfl, _, rfl⟩, hxi⟩) hTI.2 ⟨_, (N34 _ (.head _)).1, rfl, _, rfl⟩ (.cons _ _ .nil) hkind hsz (by omega)) fun r s' h => ?_)
            obtain ⟨D35, vs35, n35, h35, tk35, rfl, rfl, I35, F35, N35, o35, k35⟩ := listpost_use F34 N34 h
            clear F34 N34
            dsimp only
            k_steps
            unfold Hold
            refine newList_NK F35 N35 fun h36 F36 N36 k36 => ?_
            clear F35 N35
            replace k36 := KeepH.mk k36
            k_steps
            · cases List.filter (atP (thereP b [2]) bs.ns) as <;> rfl
            · exact ⟨_, _, rfl, fun b o e => k36.k _ _ (k35.k _ _ (k34.k _ _ e))⟩
          case cg6 =>
            intro D9 h' tk' ys vs hD hl hpl hlen' hP' hF hn hkeep
            have hys := paired_eq hF
            obtain ⟨oD, hoD⟩ := hpl
            rcases ys with ⟨yl⟩
            have I36 : IntsAre yl (((rangeKs 0 bs.ns.length).filter (atP (thereP b [1]) bs.ns)).filter (dueP b bs.ns bs.ab)) := by
              have hys' : yl = vs.filter (valP (dueP b bs.ns bs.ab)) := hys
              rw [hys']
              exact ints_filter (ints_of (hlen'.trans (by simpa using I31.length)) fun j v e => ints_inv I31 (by simpa using hP' j v e)) _
            have F36 := fr_comp F32 hup hI hkeep hn
            have N36 := news_comp (oD := listOf yl.toArray oD) F32 N32 hup hI hkeep hD hoD
            clear F32 N32 hn hkeep hl hF
            dsimp only
            k_steps
            unfold Hold
            rename Fr _ _ _ _ => F37
            rename News _ _ _ _ => N37
            refine wpAny_call (codeAny_mono (told_spec (d := 302) (outer := [_]) (gs := some []) (u := 7) (pushX B F37 rfl rfl) XB TB (by decide) (hrow N37 (fun p hp => .tail _ (.tail _ (.tail _ (.tail _ (.tail _ (.tail _ (.tail _ (.tail _ (.tail _ (hrest ▸ hp))))))))))) (hshown N37 (fun p hp => .tail _ (.tail _ (.tail _ (.tail _ (.tail _ (.tail _ (.tail _ (.tail _ (.tail _ (hrest ▸ hp))))))))))) hkind hans hsz) fun r s' h => ?_)
            obtain ⟨D38, vs38, n38, h38, tk38, rfl, rfl, I38, F38, N38, o38⟩ := listpost_use F37 N37 h
            rw [htold] at I38
            clear F37 N37
            dsimp only
            k_steps
            · exact .inl rfl
            · refine ⟨_, _, _, o', rfl, F38, fun p hp => ?_, fun p hp => N38 p (.tail _ (.tail _ (.tail _ (.tail _ (.tail _ (.tail _ (.tail _ (.tail _ hp)))))))), _, dt⟩
              simp only [List.mem_cons, List.not_mem_nil, or_false] at hp
              rcases hp with rfl | rfl | rfl | rfl <;> rfl
        case done7 =>
          clear Fg Ng
          rintro s' ⟨h, tk, m', o', rfl, Fd, hfd, Nd, dd⟩
          obtain ⟨m9, rfl⟩ : ∃ m9 : Str → Option Value, m' = fun y => if y = Str.ofString "plain" then some (Value.ref pI) else if y = Str.ofString "places" then some (Value.ref rg) else if y = Str.ofString "kept" then some (Value.ref D) else if y = Str.ofString "shown" then some (Value.ref shA) else m9 y :=
            ⟨m', fix_one (hfd _ (.head _)) (fix_one (hfd _ (.tail _ (.head _))) (fix_one (hfd _ (.tail _ (.tail _ (.head _)))) (fix_one (hfd _ (.tail _ (.tail _ (.tail _ (.head _))))) rfl)))⟩
          clear hfd
          have mk2 : InLoop := ⟨trivial⟩
          k_steps
          unfold Hold
          rename Fr _ _ _ _ => F40
          rename News _ _ _ _ => N40
          refine wpAny_call (codeAny_mono (refused (d := 302) (outer := [_]) (gs := some []) (u := 7) (pushX B F40 rfl rfl) XB TB ?D41 (by decide) (by decide) (N40 (pI, instObj 31 pD) (by simp)).1 (N40 (pD, dictOf [] 0) (by simp)).1) fun r s' h => ?_)
          case D41 => exact dicts_push ktsDicts_nil F40
          obtain ⟨rfl, hK⟩ := h
          obtain ⟨h42, tk42, rfl, F42, N42⟩ := keepsT_use F40 N40 hK
          clear F40 N40 hK
          dsimp only
          k_steps
          unfold Hold
          rename Fr _ _ _ _ => F43
          rename News _ _ _ _ => N43
          refine wpAny_call (codeAny_mono (refused (d := 302) (outer := [_]) (gs := some []) (u := 7) (pushX B F43 rfl rfl) XB TB ?D44 (by decide) (by decide) (N43 (pI, instObj 31 pD) (by simp)).1 (N43 (pD, dictOf [] 0) (by simp)).1) fun r s' h => ?_)
          case D44 => exact dicts_push ktsDicts_nil F43
          obtain ⟨rfl, hK⟩ := h
          obtain ⟨h45, tk45, rfl, F45, N45⟩ := keepsT_use F43 N43 hK
          clear F43 N43 hK
          dsimp only
          have mk4 : InEnd := ⟨trivial⟩
          k_steps
          unfold Hold
          rename Fr _ _ _ _ => F46
          rename News _ _ _ _ => N46
          refine eq_nodes (xs := rvs) (ys := ys.toList) (ns := bs.ns) ⟨_, (N46 (rA, listOf rvs.toArray rep) (by simp)).1, rfl, _, rfl⟩ ⟨_, (N46 (D, { cls := .type "list", data := .seq ys cD }) (.tail _ (hrest ▸ mQ _ (mK _ (.head _))))).1, rfl, _, rfl⟩ ?e1 ?e2 (by show 7 + 64 < cLine; decide) ?e3
          case e1 => exact hfr.mono fun _ _ x => NodeIn.at N46 (fun p hp => .tail _ (hrest ▸ mB p hp)) x
          case e2 =>
            refine hk2.mono fun _ _ x => ?_
            obtain ⟨b, o, t1, t2, t3, k, e, hm, r1, r2⟩ := x
            refine ⟨b, t1, t2, t3, e, o, (N46 (b, o) (.tail _ (hrest ▸ mQ _ (mK _ (.tail _ hm))))).1, r1, _, r2⟩
          k_steps
          unfold Hold
          refine lshift_int_small (by decide) (by decide) (by decide) ?_
          k_steps
          exact ⟨_, _, rfl, F46.keep⟩
end
end Mine
namespace Mine
open PySem PySem.W PyProof.Rows PySem.Calls
set_option maxRecDepth 100000
set_option linter.all false
set_option maxHeartbeats 8000000 in
theorem top_dev : PySem.Challenge.rw_kn0096_01.Holds := by
  refine hd ?_
  k_fill
  intro w s₀ s₁ mg mb G Y fa o pm cd doc dV kV ho hd hcd hD hmg hg args vals as hpre hlay hrd hwl hlo
  have KX := kIn_of Y
  have hmg9 := hmg
  have X := (Ground.X G).1
  have V := (Ground.X G).2
  try w_nolog (first | (have GL := glob_more (Ground.glob G (by first | k_qdec | decide +kernel) (by first | k_qdec | decide +kernel)) V) | (have GL := glob_more (Ground.glob G (by decide +kernel)) V))
  refine Ground.open G ?_
  intro T B D TE TW
  try (refine guard_noD D (by decide +kernel) ?_; clear D)
  obtain ⟨_, _, M⟩ := bmod_of_top T
  have TA := at_of_top T
  try (obtain ⟨_, _, he, B0⟩ := based_of_top T rfl hmg ho hd; have he' : cd = _ := he; subst he'; clear he)
  clear hmg
  wrow_args hpre hlay hrd hwl hlo
  all_goals (
    first | refine callC_kw (enter_call ?_) | refine enter_call ?_ | refine callC_kw (enter_callW ?_) | refine enter_callW ?_ | w_how
    w_top on
    try refine codeAny_mono ?_ (fun _ _ g => GoodW.toG g)
    have K0 := below_caller (Top.heap T)
    have e9 := mg_of KX T.g (n := Str.ofString "law") (v := .ref 66) (by k_is)
    have e8 := Value.ref.inj (Option.some.inj (hmg9.symm.trans e9))
    subst e8
    rename Heap.IsList _ _ _ => hL9
    rename IntsAre _ _ => hI9
    refine codeAny_mono (law_spec KX T hL9 hI9 (by omega)) fun r s' h => ?_
    obtain ⟨rfl, h', tk, rfl, hk⟩ := h
    refine ⟨.inl ⟨.bool true, .bool true, [], rfl, ?hn, .bool true, ?hp, unshared_nil⟩, hk, rfl, hg⟩
    case hn => exact raisesW_false (by wrow_none_raised)
    case hp => wrow_post)
end Mine
theorem PySem.Challenge.cw_kn0096_01_holds : PySem.Challenge.rw_kn0096_01.Holds := by
  exact Mine.top_dev
